/-
  THE WALK of FnInstallerInFirstMarkAtOrBelowAndSplits at a cut of the line.
-/
import Derived.Test.Qxb6617401aLaw
namespace Go.Proofs.Qxb6617401a
open Go.RowKit

/-- What the loop has seen of the first k marks. -/
def Seen (ls : List Mk) (id : Int) (m : Mb) (k : Nat) (hit named : Bool) : Prop :=
  (hit = true ↔ ∃ j, j < k ∧ (ls.getD j mk0).1 ≤ id) ∧ (∀ j, j < k → (ls.getD j mk0).1 ≤ id → (ls.getD j mk0).2 = m → named = true)

theorem Seen.skip {ls : List Mk} {id : Int} {m : Mb} {k : Nat} {hit named : Bool} (h : Seen ls id m k hit named) (hz : ¬ (ls.getD k mk0).1 ≤ id) : Seen ls id m (k + 1) hit named := by
  refine ⟨⟨fun e => ?_, fun ⟨j, hj, hle⟩ => ?_⟩, fun j hj hle hm => ?_⟩
  · obtain ⟨j, hj, hle⟩ := h.1.1 e; exact ⟨j, by omega, hle⟩
  · by_cases e : j = k
    · subst e; exact absurd hle hz
    · exact h.1.2 ⟨j, by omega, hle⟩
  · by_cases e : j = k
    · subst e; exact absurd hle hz
    · exact h.2 j (by omega) hle hm

theorem Seen.hit {ls : List Mk} {id : Int} {m : Mb} {k : Nat} {hit named : Bool} (h : Seen ls id m k hit named) (hz : (ls.getD k mk0).1 ≤ id) (g : Bool) (hg : (ls.getD k mk0).2 = m → g = true) : Seen ls id m (k + 1) true (named || g) := by
  refine ⟨⟨fun _ => ⟨k, by omega, hz⟩, fun _ => rfl⟩, fun j hj hle hm => ?_⟩
  by_cases e : j = k
  · subst e; simp [hg hm]
  · simp [h.2 j (by omega) hle hm]

/-- What the whole line answers. -/
def Whole (ls : List Mk) (id : Int) (b : Bool) (m : Mb) : Prop := (b = true ∧ fnd ls id = some m) ∨ (b = false ∧ fnd ls id = none ∧ m = mb0)

/-- The two cuts' answers against the whole line's. -/
theorem fin_law {ls : List Mk} {id : Int} {kk : Nat} {m l t : Mb} {b lb tb : Bool} (hw : Whole ls id b m) (hl : (lb = true ∧ fnd (ls.take kk) id = some l) ∨ (lb = false ∧ fnd (ls.take kk) id = none ∧ l = mb0)) (ht : (tb = true ∧ fnd (ls.drop kk) id = some t) ∨ (tb = false ∧ fnd (ls.drop kk) id = none ∧ t = mb0)) :
    (lb = true ∧ b = true ∧ l = m) ∨ (lb = false ∧ tb = b ∧ t = m) := by
  have h := fnd_split ls id kk
  rcases hl with ⟨rfl, e1⟩ | ⟨rfl, e1, rfl⟩ <;> rw [e1] at h
  · rcases hw with ⟨rfl, e⟩ | ⟨rfl, e, rfl⟩ <;> rw [e] at h
    · left; simp at h; exact ⟨rfl, rfl, h.symm⟩
    · simp at h
  · right
    rcases hw with ⟨rfl, e⟩ | ⟨rfl, e, rfl⟩ <;> rw [e] at h <;> rcases ht with ⟨rfl, e2⟩ | ⟨rfl, e2, rfl⟩ <;> rw [e2] at h <;> simp at h
    · exact ⟨rfl, rfl, h.symm⟩
    · exact ⟨rfl, rfl, rfl⟩

theorem zzAt (vid id : Int) (am asb : Option Addr) (nm cm ns cs : Nat) (ls : List Mk) (ao : Option Addr) (n c : Nat) (w : World) (hrow : RowL w ao ls) (he : ls.length = n) (hn : n ≤ 1048576) :
    Calls Try.prog 8 #[.agg #[.int .u64 vid, .slice am nm cm, .slice ao n c, .slice asb ns cs], .int .u64 id] w fun e w' => FindSays ls id w e w' := by
  subst he
  exact zzInstaller_any vid id am asb nm cm ns cs ls ao c w hrow hn

set_option maxRecDepth 100000 in
set_option maxHeartbeats 8000000 in
theorem law_in (vid id : Int) (kk : Nat) (am al asb : Option Addr) (cm cl cs : Nat) (ms : List Mb) (ls : List Mk) (ss : List Nat) (w : World) (hm : RowM w am ms) (hl : RowL w al ls) (hs : RowS w asb ss) (zm : am = none → ms = []) (zl : al = none → ls = []) (nm : ms.length ≤ maxLen) (nl : ls.length ≤ maxLen) (ns : ss.length ≤ maxLen) (hk : kk ≤ ls.length) :
    Calls Try.prog 3 #[.int .u64 vid, .slice am ms.length cm, .slice al ls.length cl, .slice asb ss.length cs, .int .u64 id, .int .i64 kk] w fun e w' => e = .returned (.bool true) ∧ Below w.heap.size w w' := by
  have HR : Hid (RowM w am ms ∧ RowL w al ls ∧ RowS w asb ss ∧ (am = none → ms = []) ∧ (al = none → ls = [])) := ⟨hm, hl, hs, zm, zl⟩
  clear hm hl hs zm zl
  have nm' := nm
  have nl' := nl
  have ns' := ns
  unfold maxLen at nm' nl' ns'
  have hki : (kk : Int) ≤ (ls.length : Int) := by omega
  have hk0 := hk
  go_enter Try.func3, Try.ntmps3
  go_wp2_with fail
  refine (guard_any vid id kk am al asb cm cl cs ms ls ss _ HR.out.1 HR.out.2.1 HR.out.2.2.1 nm nl ns).mono ?_
  rintro e w' ⟨⟨g, rfl, hg⟩, rfl⟩
  cases g
  · clear hg
    go_wp2_with fail
    go_ret
    exact ⟨rfl, Below.refl _ _⟩
  have hgb := hg rfl
  clear hg
  go_wp2_with fail
  refine (viewBytes_any am al asb cm cl cs ms ls ss _ HR.out.1 HR.out.2.1 HR.out.2.2.1 hgb.1 hgb.2.1 hgb.2.2).mono ?_
  rintro e w1 ⟨⟨r, rfl, hr0, hr1⟩, hb1⟩
  have H1 : Hid (Below w.heap.size w w1 ∧ RowM w1 am ms ∧ RowL w1 al ls) := ⟨hb1, HR.out.1.kept hb1, HR.out.2.1.kept hb1⟩
  clear hb1
  by_cases hrb : 1048576 < r
  · go_wp2_with fail
    go_ret
    exact ⟨rfl, H1.out.1⟩
  go_wp2_with fail
  refine (toWireMembers_any ms am cm _ H1.out.2.1 HR.out.2.2.2.1 hgb.1).mono ?_
  rintro e w2 ⟨aM, nM, cM, rfl, hb2⟩
  have H2 : Hid (Below w.heap.size w w2 ∧ RowL w2 al ls) := ⟨H1.out.1.trans (hb2.mono H1.out.1.size), H1.out.2.2.kept hb2⟩
  clear hb2
  go_wp2_with fail
  refine (toWireLine_any ls al cl _ H2.out.2 HR.out.2.2.2.2 hgb.2.1).mono ?_
  rintro e w3 ⟨aL, rfl, hRL, haL, hb3⟩
  have H3 : Hid (Below w.heap.size w w3 ∧ RowL w3 al ls ∧ RowL w3 aL ls ∧ ((aL = none ∧ ls = []) ∨ ∃ g, aL = some ⟨g, 0, none⟩)) := ⟨H2.out.1.trans (hb3.mono H2.out.1.size), H2.out.2.kept hb3, hRL, haL⟩
  clear hb3 hRL haL
  go_wp2_with fail
  refine (zzInstaller_any vid id aM asb nM cM ss.length cs ls aL ls.length _ (H3.out.2.2.1.kept ((Below.refl _ _).alloc (Nat.le_refl _) _)) hgb.2.1).mono ?_
  rintro e w4 ⟨⟨m1, m2, m3⟩, b, rfl, hfb, hb4⟩
  simp only at hfb ⊢
  have hb34 : Below w3.heap.size w3 w4 := ((Below.refl _ _).alloc (Nat.le_refl _) _).trans (hb4.mono (by simp))
  have H4 : Hid (Below w.heap.size w w4 ∧ RowL w4 al ls ∧ RowL w4 aL ls ∧ ((b = true ∧ fnd ls id = some (m1, m2, m3)) ∨ (b = false ∧ fnd ls id = none ∧ (m1, m2, m3) = mb0))) := ⟨H3.out.1.trans (hb34.mono H3.out.1.size), H3.out.2.1.kept hb34, H3.out.2.2.1.kept hb34, hfb⟩
  clear hb4 hb34 hfb
  go_wp2_with fail
  obtain ⟨W5, HW5⟩ : ∃ W5, Hid (W5 = w4.alloc (.cells #[.string m1, .string m2, .int .u64 m3] 35)) := ⟨_, rfl⟩
  obtain ⟨G, HG⟩ : ∃ G, Hid (G = w4.heap.size) := ⟨_, rfl⟩
  rw [← HW5.out, ← HG.out]
  have H5 : Hid (Below w.heap.size w W5 ∧ RowL W5 al ls ∧ RowL W5 aL ls ∧ W5.heap[G]? = some (.cells #[.string m1, .string m2, .int .u64 m3] 35 (0, 0)) ∧ G < W5.heap.size) := by
    have hb45 : Below w4.heap.size w4 W5 := by rw [HW5.out]; exact (Below.refl _ _).alloc (Nat.le_refl _) _
    refine ⟨H4.out.1.trans (hb45.mono H4.out.1.size), H4.out.2.1.kept hb45, H4.out.2.2.1.kept hb45, ?_, ?_⟩
    · rw [HW5.out, HG.out]; exact heap_alloc_new _ _
    · rw [HW5.out, HG.out]; simp
  go_loopg [18, 19, 20] ls.length (fun g s18 s19 s20 wr => ∃ (k : Nat) (hit named : Bool), Hid (k + g = ls.length) ∧ s20 = .int .i64 k ∧ s18 = .bool hit ∧ s19 = .bool named ∧ Hid (Seen ls id (m1, m2, m3) k hit named ∧ Below W5.heap.size W5 wr))
  case atStart => exact ⟨0, false, false, Nat.zero_add _, rfl, rfl, rfl, ⟨⟨by simp, fun ⟨j, hj, _⟩ => by omega⟩, fun j hj => by omega⟩, Below.refl _ _⟩
  case round =>
    obtain ⟨k, hit, named, hk, rfl, rfl, rfl, hb⟩ := hrel
    have hblk : wr.heap[G]? = some (.cells #[.string m1, .string m2, .int .u64 m3] 35 (0, 0)) := (hb.out.2.block G H5.out.2.2.2.2).trans H5.out.2.2.2.1
    have hGl : G < wr.heap.size := Nat.lt_of_lt_of_le H5.out.2.2.2.2 hb.out.2.size
    have r0 : wr.cell? ⟨G, 0, none⟩ = some (.string m1) := by simp [World.cell?, hblk]
    have r1 : wr.cell? ⟨G, 1, none⟩ = some (.string m2) := by simp [World.cell?, hblk]
    have r2 : wr.cell? ⟨G, 2, none⟩ = some (.int .u64 m3) := by simp [World.cell?, hblk]
    have rf : ∀ o, wr.frozen? ⟨G, o, none⟩ = false := fun o => by simp [World.frozen?, hblk]
    clear hblk
    by_cases hlt : k < ls.length
    · obtain ⟨bb, off, eal, h0, h1, h2, h3, hl⟩ := H5.out.2.1.kept hb.out.2 k hlt
      have HS1 : Hid (¬ (ls.getD k mk0).1 ≤ id → Seen ls id (m1, m2, m3) (k + 1) hit named) := fun h => hb.out.1.skip h
      have HS2 : Hid ((ls.getD k mk0).1 ≤ id → ∀ g, ((ls.getD k mk0).2 = (m1, m2, m3) → g = true) → Seen ls id (m1, m2, m3) (k + 1) true (named || g)) := fun h g hg => hb.out.1.hit h g hg
      generalize ls.getD k mk0 = z at h0 h1 h2 h3 HS1 HS2
      obtain ⟨z1, z2, z3, z4⟩ := z
      simp only at h0 h1 h2 h3
      subst eal
      by_cases hz : z1 ≤ id
      · have hGn : ¬ G = wr.heap.size := by omega
        have hbn : ¬ bb = wr.heap.size := by omega
        go_wp2_with fail
        go_region_with (go_at_call 9; refine (sameWireL_any m1 m2 z2 z3 m3 z4 _).mono ?_; rintro e w' ⟨⟨g, rfl, hg⟩, hbw⟩)
        all_goals
          have HBW : Hid (Below W5.heap.size W5 w') := by first | exact hb.out.2.trans (hbw.mono hb.out.2.size) | exact hb.out.2.drew.trans (hbw.mono hb.out.2.size)
          clear hbw
          cases g
          · have HS3 : Hid (Seen ls id (m1, m2, m3) (k + 1) true named) := by
              have h := HS2.out hz false (fun e => hg (by simp only [Prod.mk.injEq] at e; exact ⟨e.1.symm, e.2.1.symm, e.2.2.symm⟩))
              rw [Bool.or_false] at h
              exact h
            clear hg
            go_wp2_with fail
            go_roundg (gk - 1)
            case measure => have := hk.out; omega
            case rel => exact ⟨k + 1, true, named, (by have := hk.out; show k + 1 + (gk - 1) = ls.length; omega), by go_num, rfl, rfl, HS3.out, HBW.out⟩
          · have HS3 : Hid (Seen ls id (m1, m2, m3) (k + 1) true true) := by
              have h := HS2.out hz true (fun _ => rfl)
              rw [Bool.or_true] at h
              exact h
            clear hg
            go_wp2_with fail
            go_roundg (gk - 1)
            case measure => have := hk.out; omega
            case rel => exact ⟨k + 1, true, true, (by have := hk.out; show k + 1 + (gk - 1) = ls.length; omega), by go_num, rfl, rfl, HS3.out, HBW.out⟩
      · go_wp2_with fail
        go_roundg (gk - 1)
        case measure => have := hk.out; omega
        case rel => exact ⟨k + 1, hit, named, (by have := hk.out; show k + 1 + (gk - 1) = ls.length; omega), by go_num, rfl, rfl, HS1.out hz, hb.out.2⟩
    · have hkl : Hid (k = ls.length) := by have := hk.out; show k = ls.length; omega
      have HB6 : Hid (Below w.heap.size w wr ∧ RowL wr aL ls) := ⟨H5.out.1.trans (hb.out.2.mono H5.out.1.size), H5.out.2.2.1.kept hb.out.2⟩
      rcases H4.out.2.2.2 with ⟨rfl, hf⟩ | ⟨rfl, hf, he⟩
      · have hh : hit = true := by
          obtain ⟨j, hj, hle, _⟩ := fnd_hit ls id _ hf
          exact hb.out.1.1.2 ⟨j, by have := hkl.out; omega, hle⟩
        have hn : named = true := by
          obtain ⟨j, hj, hle, hm⟩ := fnd_hit ls id _ hf
          exact hb.out.1.2 j (by have := hkl.out; omega) hle hm
        have HF : Hid (Whole ls id true (m1, m2, m3)) := .inl ⟨rfl, hf⟩
        clear hf hb
        subst hh hn
        rcases H3.out.2.2.2 with ⟨rfl, hls⟩ | ⟨g, rfl⟩
        · subst hls
          have hkz : kk = 0 := by simpa using hk0
          subst hkz
          have HRT : Hid (RowL wr (none : Option Addr) (List.drop 0 ([] : List Mk))) := by intro i hi; simp at hi
          go_wp2_with fail
          refine (zzAt vid id aM asb nM cM ss.length cs (List.take 0 ([] : List Mk)) _ _ _ _ ((HB6.out.2.take 0).kept (((Below.refl _ _).alloc (Nat.le_refl _) _).alloc (by simp) _)) (by first | (rw [List.length_take]; omega) | simp) (by first | omega | simp)).mono ?_
          rintro e w7 ⟨⟨l1, l2, l3⟩, lb, rfl, hlf, hb7⟩
          simp only at hlf ⊢
          have HB7 : Hid (Below wr.heap.size wr w7) := (((Below.refl _ _).alloc (Nat.le_refl _) _).alloc (by simp) _).trans (hb7.mono (by simp; omega))
          have hs7 : wr.heap.size + 1 < w7.heap.size := by have := hb7.size; simp at this; omega
          have q0 : w7.cell? ⟨wr.heap.size + 1, 0, none⟩ = some (.int .u64 vid) := by rw [hb7.cell (p := ⟨wr.heap.size + 1, 0, none⟩) (by simp)]; simp
          have q1 : w7.cell? ⟨wr.heap.size + 1, 1, none⟩ = some (.slice aM nM cM) := by rw [hb7.cell (p := ⟨wr.heap.size + 1, 1, none⟩) (by simp)]; simp
          have q2 : w7.cell? ⟨wr.heap.size + 1, 2, none⟩ = some (.slice (none : Option Addr) 0 0) := by rw [hb7.cell (p := ⟨wr.heap.size + 1, 2, none⟩) (by simp)]; simp
          have q3 : w7.cell? ⟨wr.heap.size + 1, 3, none⟩ = some (.slice asb ss.length cs) := by rw [hb7.cell (p := ⟨wr.heap.size + 1, 3, none⟩) (by simp)]; simp
          have HL : Hid ((lb = true ∧ fnd (List.take 0 ([] : List Mk)) id = some (l1, l2, l3)) ∨ (lb = false ∧ fnd (List.take 0 ([] : List Mk)) id = none ∧ (l1, l2, l3) = mb0)) := hlf
          clear hlf hb7
          have hqn : ¬ wr.heap.size + 1 = w7.heap.size := by omega
          go_wp2_with fail
          refine (zzAt vid id aM asb nM cM ss.length cs (List.drop 0 ([] : List Mk)) _ _ _ _ (HRT.out.kept (HB7.out.alloc HB7.out.size _)) (by first | (rw [List.length_drop]; done) | (rw [List.length_drop]; omega) | simp) (by first | omega | simp)).mono ?_
          rintro e w8 ⟨⟨t1, t2, t3⟩, tb, rfl, hrf, hb8⟩
          simp only at hrf ⊢
          have HB8 : Hid (Below wr.heap.size wr w8) := (HB7.out.alloc HB7.out.size _).trans (hb8.mono (by have := HB7.out.size; simp; omega))
          have x0 : w8.cell? ⟨w7.heap.size, 0, none⟩ = some (.string l1) := by rw [hb8.cell (p := ⟨w7.heap.size, 0, none⟩) (by simp)]; simp
          have x1 : w8.cell? ⟨w7.heap.size, 1, none⟩ = some (.string l2) := by rw [hb8.cell (p := ⟨w7.heap.size, 1, none⟩) (by simp)]; simp
          have x2 : w8.cell? ⟨w7.heap.size, 2, none⟩ = some (.int .u64 l3) := by rw [hb8.cell (p := ⟨w7.heap.size, 2, none⟩) (by simp)]; simp
          have hs8 : w7.heap.size < w8.heap.size := by have := hb8.size; simp at this; omega
          have hs78 : ¬ w7.heap.size = w8.heap.size := by omega
          have hgs8 : G < w8.heap.size := by omega
          have y0 : w8.cell? ⟨G, 0, none⟩ = some (.string m1) := by rw [HB8.out.cell (p := ⟨G, 0, none⟩) hGl]; exact r0
          have y1 : w8.cell? ⟨G, 1, none⟩ = some (.string m2) := by rw [HB8.out.cell (p := ⟨G, 1, none⟩) hGl]; exact r1
          have y2 : w8.cell? ⟨G, 2, none⟩ = some (.int .u64 m3) := by rw [HB8.out.cell (p := ⟨G, 2, none⟩) hGl]; exact r2
          have hgn8 : ¬ G = w8.heap.size := by omega
          have HBE : Hid (Below w.heap.size w w8) := HB6.out.1.trans (HB8.out.mono HB6.out.1.size)
          have hfin := fin_law HF.out HL.out hrf
          clear hrf hb8 HL
          rcases hfin with ⟨rfl, _, he⟩ | ⟨rfl, rfl, he⟩
          all_goals
            simp only [Prod.mk.injEq] at he
            obtain ⟨rfl, rfl, rfl⟩ := he
            go_wp2_with fail
            refine (sameWire_true _ _ _ _).mono ?_
            rintro e w9 ⟨rfl, hb9⟩
            have HB9 : Hid (Below w.heap.size w w9) := (HBE.out.alloc HBE.out.size _).trans (hb9.mono (by have := HBE.out.size; simp; omega))
            clear hb9
            go_wp2_with fail
            go_ret
            exact ⟨rfl, HB9.out⟩
        · by_cases hc : kk = ls.length
          · subst hc
            have HRT : Hid (RowL wr (some ⟨g, 0, none⟩) (List.drop ls.length ls)) := by intro i hi; simp at hi
            go_wp2_with fail
            refine (zzAt vid id aM asb nM cM ss.length cs (List.take ls.length ls) _ _ _ _ ((HB6.out.2.take ls.length).kept (((Below.refl _ _).alloc (Nat.le_refl _) _).alloc (by simp) _)) (by first | (rw [List.length_take]; omega) | simp) (by first | omega | simp)).mono ?_
            rintro e w7 ⟨⟨l1, l2, l3⟩, lb, rfl, hlf, hb7⟩
            simp only at hlf ⊢
            have HB7 : Hid (Below wr.heap.size wr w7) := (((Below.refl _ _).alloc (Nat.le_refl _) _).alloc (by simp) _).trans (hb7.mono (by simp; omega))
            have hs7 : wr.heap.size + 1 < w7.heap.size := by have := hb7.size; simp at this; omega
            have q0 : w7.cell? ⟨wr.heap.size + 1, 0, none⟩ = some (.int .u64 vid) := by rw [hb7.cell (p := ⟨wr.heap.size + 1, 0, none⟩) (by simp)]; simp
            have q1 : w7.cell? ⟨wr.heap.size + 1, 1, none⟩ = some (.slice aM nM cM) := by rw [hb7.cell (p := ⟨wr.heap.size + 1, 1, none⟩) (by simp)]; simp
            have q2 : w7.cell? ⟨wr.heap.size + 1, 2, none⟩ = some (.slice (some ⟨g, 0, none⟩) 0 0) := by rw [hb7.cell (p := ⟨wr.heap.size + 1, 2, none⟩) (by simp)]; simp
            have q3 : w7.cell? ⟨wr.heap.size + 1, 3, none⟩ = some (.slice asb ss.length cs) := by rw [hb7.cell (p := ⟨wr.heap.size + 1, 3, none⟩) (by simp)]; simp
            have HL : Hid ((lb = true ∧ fnd (List.take ls.length ls) id = some (l1, l2, l3)) ∨ (lb = false ∧ fnd (List.take ls.length ls) id = none ∧ (l1, l2, l3) = mb0)) := hlf
            clear hlf hb7
            have hqn : ¬ wr.heap.size + 1 = w7.heap.size := by omega
            go_wp2_with fail
            refine (zzAt vid id aM asb nM cM ss.length cs (List.drop ls.length ls) _ _ _ _ (HRT.out.kept (HB7.out.alloc HB7.out.size _)) (by first | (rw [List.length_drop]; done) | (rw [List.length_drop]; omega) | simp) (by first | omega | simp)).mono ?_
            rintro e w8 ⟨⟨t1, t2, t3⟩, tb, rfl, hrf, hb8⟩
            simp only at hrf ⊢
            have HB8 : Hid (Below wr.heap.size wr w8) := (HB7.out.alloc HB7.out.size _).trans (hb8.mono (by have := HB7.out.size; simp; omega))
            have x0 : w8.cell? ⟨w7.heap.size, 0, none⟩ = some (.string l1) := by rw [hb8.cell (p := ⟨w7.heap.size, 0, none⟩) (by simp)]; simp
            have x1 : w8.cell? ⟨w7.heap.size, 1, none⟩ = some (.string l2) := by rw [hb8.cell (p := ⟨w7.heap.size, 1, none⟩) (by simp)]; simp
            have x2 : w8.cell? ⟨w7.heap.size, 2, none⟩ = some (.int .u64 l3) := by rw [hb8.cell (p := ⟨w7.heap.size, 2, none⟩) (by simp)]; simp
            have hs8 : w7.heap.size < w8.heap.size := by have := hb8.size; simp at this; omega
            have hs78 : ¬ w7.heap.size = w8.heap.size := by omega
            have hgs8 : G < w8.heap.size := by omega
            have y0 : w8.cell? ⟨G, 0, none⟩ = some (.string m1) := by rw [HB8.out.cell (p := ⟨G, 0, none⟩) hGl]; exact r0
            have y1 : w8.cell? ⟨G, 1, none⟩ = some (.string m2) := by rw [HB8.out.cell (p := ⟨G, 1, none⟩) hGl]; exact r1
            have y2 : w8.cell? ⟨G, 2, none⟩ = some (.int .u64 m3) := by rw [HB8.out.cell (p := ⟨G, 2, none⟩) hGl]; exact r2
            have hgn8 : ¬ G = w8.heap.size := by omega
            have HBE : Hid (Below w.heap.size w w8) := HB6.out.1.trans (HB8.out.mono HB6.out.1.size)
            have hfin := fin_law HF.out HL.out hrf
            clear hrf hb8 HL
            rcases hfin with ⟨rfl, _, he⟩ | ⟨rfl, rfl, he⟩
            all_goals
              simp only [Prod.mk.injEq] at he
              obtain ⟨rfl, rfl, rfl⟩ := he
              go_wp2_with fail
              refine (sameWire_true _ _ _ _).mono ?_
              rintro e w9 ⟨rfl, hb9⟩
              have HB9 : Hid (Below w.heap.size w w9) := (HBE.out.alloc HBE.out.size _).trans (hb9.mono (by have := HBE.out.size; simp; omega))
              clear hb9
              go_wp2_with fail
              go_ret
              exact ⟨rfl, HB9.out⟩
          · have hcl : kk < ls.length := by omega
            have HRT : Hid (RowL wr (some ⟨g, kk * 4, none⟩) (List.drop kk ls)) := RowL.drop HB6.out.2 kk
            go_wp2_with fail
            refine (zzAt vid id aM asb nM cM ss.length cs (List.take kk ls) _ _ _ _ ((HB6.out.2.take kk).kept (((Below.refl _ _).alloc (Nat.le_refl _) _).alloc (by simp) _)) (by first | (rw [List.length_take]; omega) | simp) (by first | omega | simp)).mono ?_
            rintro e w7 ⟨⟨l1, l2, l3⟩, lb, rfl, hlf, hb7⟩
            simp only at hlf ⊢
            have HB7 : Hid (Below wr.heap.size wr w7) := (((Below.refl _ _).alloc (Nat.le_refl _) _).alloc (by simp) _).trans (hb7.mono (by simp; omega))
            have hs7 : wr.heap.size + 1 < w7.heap.size := by have := hb7.size; simp at this; omega
            have q0 : w7.cell? ⟨wr.heap.size + 1, 0, none⟩ = some (.int .u64 vid) := by rw [hb7.cell (p := ⟨wr.heap.size + 1, 0, none⟩) (by simp)]; simp
            have q1 : w7.cell? ⟨wr.heap.size + 1, 1, none⟩ = some (.slice aM nM cM) := by rw [hb7.cell (p := ⟨wr.heap.size + 1, 1, none⟩) (by simp)]; simp
            have q2 : w7.cell? ⟨wr.heap.size + 1, 2, none⟩ = some (.slice (some ⟨g, kk * 4, none⟩) (ls.length - kk) (ls.length - kk)) := by rw [hb7.cell (p := ⟨wr.heap.size + 1, 2, none⟩) (by simp)]; simp
            have q3 : w7.cell? ⟨wr.heap.size + 1, 3, none⟩ = some (.slice asb ss.length cs) := by rw [hb7.cell (p := ⟨wr.heap.size + 1, 3, none⟩) (by simp)]; simp
            have HL : Hid ((lb = true ∧ fnd (List.take kk ls) id = some (l1, l2, l3)) ∨ (lb = false ∧ fnd (List.take kk ls) id = none ∧ (l1, l2, l3) = mb0)) := hlf
            clear hlf hb7
            have hqn : ¬ wr.heap.size + 1 = w7.heap.size := by omega
            go_wp2_with fail
            refine (zzAt vid id aM asb nM cM ss.length cs (List.drop kk ls) _ _ _ _ (HRT.out.kept (HB7.out.alloc HB7.out.size _)) (by first | (rw [List.length_drop]; done) | (rw [List.length_drop]; omega) | simp) (by first | omega | simp)).mono ?_
            rintro e w8 ⟨⟨t1, t2, t3⟩, tb, rfl, hrf, hb8⟩
            simp only at hrf ⊢
            have HB8 : Hid (Below wr.heap.size wr w8) := (HB7.out.alloc HB7.out.size _).trans (hb8.mono (by have := HB7.out.size; simp; omega))
            have x0 : w8.cell? ⟨w7.heap.size, 0, none⟩ = some (.string l1) := by rw [hb8.cell (p := ⟨w7.heap.size, 0, none⟩) (by simp)]; simp
            have x1 : w8.cell? ⟨w7.heap.size, 1, none⟩ = some (.string l2) := by rw [hb8.cell (p := ⟨w7.heap.size, 1, none⟩) (by simp)]; simp
            have x2 : w8.cell? ⟨w7.heap.size, 2, none⟩ = some (.int .u64 l3) := by rw [hb8.cell (p := ⟨w7.heap.size, 2, none⟩) (by simp)]; simp
            have hs8 : w7.heap.size < w8.heap.size := by have := hb8.size; simp at this; omega
            have hs78 : ¬ w7.heap.size = w8.heap.size := by omega
            have hgs8 : G < w8.heap.size := by omega
            have y0 : w8.cell? ⟨G, 0, none⟩ = some (.string m1) := by rw [HB8.out.cell (p := ⟨G, 0, none⟩) hGl]; exact r0
            have y1 : w8.cell? ⟨G, 1, none⟩ = some (.string m2) := by rw [HB8.out.cell (p := ⟨G, 1, none⟩) hGl]; exact r1
            have y2 : w8.cell? ⟨G, 2, none⟩ = some (.int .u64 m3) := by rw [HB8.out.cell (p := ⟨G, 2, none⟩) hGl]; exact r2
            have hgn8 : ¬ G = w8.heap.size := by omega
            have HBE : Hid (Below w.heap.size w w8) := HB6.out.1.trans (HB8.out.mono HB6.out.1.size)
            have hfin := fin_law HF.out HL.out hrf
            clear hrf hb8 HL
            rcases hfin with ⟨rfl, _, he⟩ | ⟨rfl, rfl, he⟩
            all_goals
              simp only [Prod.mk.injEq] at he
              obtain ⟨rfl, rfl, rfl⟩ := he
              go_wp2_with fail
              refine (sameWire_true _ _ _ _).mono ?_
              rintro e w9 ⟨rfl, hb9⟩
              have HB9 : Hid (Below w.heap.size w w9) := (HBE.out.alloc HBE.out.size _).trans (hb9.mono (by have := HBE.out.size; simp; omega))
              clear hb9
              go_wp2_with fail
              go_ret
              exact ⟨rfl, HB9.out⟩
      · have hh : hit = false := by
          cases hit
          · rfl
          · obtain ⟨j, hj, hle⟩ := hb.out.1.1.1 rfl
            exact absurd hle (fnd_miss ls id hf j (by have := hkl.out; omega))
        have HF : Hid (Whole ls id false (m1, m2, m3)) := .inr ⟨rfl, hf, he⟩
        clear hf hb
        subst hh
        have hm0 : Hid (m1 = ⟨#[]⟩ ∧ m2 = ⟨#[]⟩ ∧ m3 = 0) := by
          unfold mb0 at he
          simp only [Prod.mk.injEq] at he
          exact he
        clear he
        go_wp2_with fail
        refine (sameWireL_any m1 m2 _ _ m3 _ _).mono ?_
        rintro e w6 ⟨⟨gg, rfl, hg⟩, hb6⟩
        have hg1 : gg = true := hg hm0.out
        subst hg1
        clear hg hm0
        have r0 : w6.cell? ⟨G, 0, none⟩ = some (.string m1) := by rw [hb6.cell (p := ⟨G, 0, none⟩) hGl]; exact r0
        have r1 : w6.cell? ⟨G, 1, none⟩ = some (.string m2) := by rw [hb6.cell (p := ⟨G, 1, none⟩) hGl]; exact r1
        have r2 : w6.cell? ⟨G, 2, none⟩ = some (.int .u64 m3) := by rw [hb6.cell (p := ⟨G, 2, none⟩) hGl]; exact r2
        have hGl : G < w6.heap.size := Nat.lt_of_lt_of_le hGl hb6.size
        have HB6 : Hid (Below w.heap.size w w6 ∧ RowL w6 aL ls) := ⟨HB6.out.1.trans (hb6.mono HB6.out.1.size), HB6.out.2.kept hb6⟩
        clear hb6
        rcases H3.out.2.2.2 with ⟨rfl, hls⟩ | ⟨g, rfl⟩
        · subst hls
          have hkz : kk = 0 := by simpa using hk0
          subst hkz
          have HRT : Hid (RowL w6 (none : Option Addr) (List.drop 0 ([] : List Mk))) := by intro i hi; simp at hi
          go_wp2_with fail
          refine (zzAt vid id aM asb nM cM ss.length cs (List.take 0 ([] : List Mk)) _ _ _ _ ((HB6.out.2.take 0).kept (((Below.refl _ _).alloc (Nat.le_refl _) _).alloc (by simp) _)) (by first | (rw [List.length_take]; omega) | simp) (by first | omega | simp)).mono ?_
          rintro e w7 ⟨⟨l1, l2, l3⟩, lb, rfl, hlf, hb7⟩
          simp only at hlf ⊢
          have HB7 : Hid (Below w6.heap.size w6 w7) := (((Below.refl _ _).alloc (Nat.le_refl _) _).alloc (by simp) _).trans (hb7.mono (by simp; omega))
          have hs7 : w6.heap.size + 1 < w7.heap.size := by have := hb7.size; simp at this; omega
          have q0 : w7.cell? ⟨w6.heap.size + 1, 0, none⟩ = some (.int .u64 vid) := by rw [hb7.cell (p := ⟨w6.heap.size + 1, 0, none⟩) (by simp)]; simp
          have q1 : w7.cell? ⟨w6.heap.size + 1, 1, none⟩ = some (.slice aM nM cM) := by rw [hb7.cell (p := ⟨w6.heap.size + 1, 1, none⟩) (by simp)]; simp
          have q2 : w7.cell? ⟨w6.heap.size + 1, 2, none⟩ = some (.slice (none : Option Addr) 0 0) := by rw [hb7.cell (p := ⟨w6.heap.size + 1, 2, none⟩) (by simp)]; simp
          have q3 : w7.cell? ⟨w6.heap.size + 1, 3, none⟩ = some (.slice asb ss.length cs) := by rw [hb7.cell (p := ⟨w6.heap.size + 1, 3, none⟩) (by simp)]; simp
          have HL : Hid ((lb = true ∧ fnd (List.take 0 ([] : List Mk)) id = some (l1, l2, l3)) ∨ (lb = false ∧ fnd (List.take 0 ([] : List Mk)) id = none ∧ (l1, l2, l3) = mb0)) := hlf
          clear hlf hb7
          have hqn : ¬ w6.heap.size + 1 = w7.heap.size := by omega
          go_wp2_with fail
          refine (zzAt vid id aM asb nM cM ss.length cs (List.drop 0 ([] : List Mk)) _ _ _ _ (HRT.out.kept (HB7.out.alloc HB7.out.size _)) (by first | (rw [List.length_drop]; done) | (rw [List.length_drop]; omega) | simp) (by first | omega | simp)).mono ?_
          rintro e w8 ⟨⟨t1, t2, t3⟩, tb, rfl, hrf, hb8⟩
          simp only at hrf ⊢
          have HB8 : Hid (Below w6.heap.size w6 w8) := (HB7.out.alloc HB7.out.size _).trans (hb8.mono (by have := HB7.out.size; simp; omega))
          have x0 : w8.cell? ⟨w7.heap.size, 0, none⟩ = some (.string l1) := by rw [hb8.cell (p := ⟨w7.heap.size, 0, none⟩) (by simp)]; simp
          have x1 : w8.cell? ⟨w7.heap.size, 1, none⟩ = some (.string l2) := by rw [hb8.cell (p := ⟨w7.heap.size, 1, none⟩) (by simp)]; simp
          have x2 : w8.cell? ⟨w7.heap.size, 2, none⟩ = some (.int .u64 l3) := by rw [hb8.cell (p := ⟨w7.heap.size, 2, none⟩) (by simp)]; simp
          have hs8 : w7.heap.size < w8.heap.size := by have := hb8.size; simp at this; omega
          have hs78 : ¬ w7.heap.size = w8.heap.size := by omega
          have hgs8 : G < w8.heap.size := by omega
          have y0 : w8.cell? ⟨G, 0, none⟩ = some (.string m1) := by rw [HB8.out.cell (p := ⟨G, 0, none⟩) hGl]; exact r0
          have y1 : w8.cell? ⟨G, 1, none⟩ = some (.string m2) := by rw [HB8.out.cell (p := ⟨G, 1, none⟩) hGl]; exact r1
          have y2 : w8.cell? ⟨G, 2, none⟩ = some (.int .u64 m3) := by rw [HB8.out.cell (p := ⟨G, 2, none⟩) hGl]; exact r2
          have hgn8 : ¬ G = w8.heap.size := by omega
          have HBE : Hid (Below w.heap.size w w8) := HB6.out.1.trans (HB8.out.mono HB6.out.1.size)
          have hfin := fin_law HF.out HL.out hrf
          clear hrf hb8 HL
          rcases hfin with ⟨_, hno, _⟩ | ⟨rfl, rfl, he⟩
          · cases hno
          all_goals
            simp only [Prod.mk.injEq] at he
            obtain ⟨rfl, rfl, rfl⟩ := he
            go_wp2_with fail
            refine (sameWire_true _ _ _ _).mono ?_
            rintro e w9 ⟨rfl, hb9⟩
            have HB9 : Hid (Below w.heap.size w w9) := (HBE.out.alloc HBE.out.size _).trans (hb9.mono (by have := HBE.out.size; simp; omega))
            clear hb9
            go_wp2_with fail
            go_ret
            exact ⟨rfl, HB9.out⟩
        · by_cases hc : kk = ls.length
          · subst hc
            have HRT : Hid (RowL w6 (some ⟨g, 0, none⟩) (List.drop ls.length ls)) := by intro i hi; simp at hi
            go_wp2_with fail
            refine (zzAt vid id aM asb nM cM ss.length cs (List.take ls.length ls) _ _ _ _ ((HB6.out.2.take ls.length).kept (((Below.refl _ _).alloc (Nat.le_refl _) _).alloc (by simp) _)) (by first | (rw [List.length_take]; omega) | simp) (by first | omega | simp)).mono ?_
            rintro e w7 ⟨⟨l1, l2, l3⟩, lb, rfl, hlf, hb7⟩
            simp only at hlf ⊢
            have HB7 : Hid (Below w6.heap.size w6 w7) := (((Below.refl _ _).alloc (Nat.le_refl _) _).alloc (by simp) _).trans (hb7.mono (by simp; omega))
            have hs7 : w6.heap.size + 1 < w7.heap.size := by have := hb7.size; simp at this; omega
            have q0 : w7.cell? ⟨w6.heap.size + 1, 0, none⟩ = some (.int .u64 vid) := by rw [hb7.cell (p := ⟨w6.heap.size + 1, 0, none⟩) (by simp)]; simp
            have q1 : w7.cell? ⟨w6.heap.size + 1, 1, none⟩ = some (.slice aM nM cM) := by rw [hb7.cell (p := ⟨w6.heap.size + 1, 1, none⟩) (by simp)]; simp
            have q2 : w7.cell? ⟨w6.heap.size + 1, 2, none⟩ = some (.slice (some ⟨g, 0, none⟩) 0 0) := by rw [hb7.cell (p := ⟨w6.heap.size + 1, 2, none⟩) (by simp)]; simp
            have q3 : w7.cell? ⟨w6.heap.size + 1, 3, none⟩ = some (.slice asb ss.length cs) := by rw [hb7.cell (p := ⟨w6.heap.size + 1, 3, none⟩) (by simp)]; simp
            have HL : Hid ((lb = true ∧ fnd (List.take ls.length ls) id = some (l1, l2, l3)) ∨ (lb = false ∧ fnd (List.take ls.length ls) id = none ∧ (l1, l2, l3) = mb0)) := hlf
            clear hlf hb7
            have hqn : ¬ w6.heap.size + 1 = w7.heap.size := by omega
            go_wp2_with fail
            refine (zzAt vid id aM asb nM cM ss.length cs (List.drop ls.length ls) _ _ _ _ (HRT.out.kept (HB7.out.alloc HB7.out.size _)) (by first | (rw [List.length_drop]; done) | (rw [List.length_drop]; omega) | simp) (by first | omega | simp)).mono ?_
            rintro e w8 ⟨⟨t1, t2, t3⟩, tb, rfl, hrf, hb8⟩
            simp only at hrf ⊢
            have HB8 : Hid (Below w6.heap.size w6 w8) := (HB7.out.alloc HB7.out.size _).trans (hb8.mono (by have := HB7.out.size; simp; omega))
            have x0 : w8.cell? ⟨w7.heap.size, 0, none⟩ = some (.string l1) := by rw [hb8.cell (p := ⟨w7.heap.size, 0, none⟩) (by simp)]; simp
            have x1 : w8.cell? ⟨w7.heap.size, 1, none⟩ = some (.string l2) := by rw [hb8.cell (p := ⟨w7.heap.size, 1, none⟩) (by simp)]; simp
            have x2 : w8.cell? ⟨w7.heap.size, 2, none⟩ = some (.int .u64 l3) := by rw [hb8.cell (p := ⟨w7.heap.size, 2, none⟩) (by simp)]; simp
            have hs8 : w7.heap.size < w8.heap.size := by have := hb8.size; simp at this; omega
            have hs78 : ¬ w7.heap.size = w8.heap.size := by omega
            have hgs8 : G < w8.heap.size := by omega
            have y0 : w8.cell? ⟨G, 0, none⟩ = some (.string m1) := by rw [HB8.out.cell (p := ⟨G, 0, none⟩) hGl]; exact r0
            have y1 : w8.cell? ⟨G, 1, none⟩ = some (.string m2) := by rw [HB8.out.cell (p := ⟨G, 1, none⟩) hGl]; exact r1
            have y2 : w8.cell? ⟨G, 2, none⟩ = some (.int .u64 m3) := by rw [HB8.out.cell (p := ⟨G, 2, none⟩) hGl]; exact r2
            have hgn8 : ¬ G = w8.heap.size := by omega
            have HBE : Hid (Below w.heap.size w w8) := HB6.out.1.trans (HB8.out.mono HB6.out.1.size)
            have hfin := fin_law HF.out HL.out hrf
            clear hrf hb8 HL
            rcases hfin with ⟨_, hno, _⟩ | ⟨rfl, rfl, he⟩
            · cases hno
            all_goals
              simp only [Prod.mk.injEq] at he
              obtain ⟨rfl, rfl, rfl⟩ := he
              go_wp2_with fail
              refine (sameWire_true _ _ _ _).mono ?_
              rintro e w9 ⟨rfl, hb9⟩
              have HB9 : Hid (Below w.heap.size w w9) := (HBE.out.alloc HBE.out.size _).trans (hb9.mono (by have := HBE.out.size; simp; omega))
              clear hb9
              go_wp2_with fail
              go_ret
              exact ⟨rfl, HB9.out⟩
          · have hcl : kk < ls.length := by omega
            have HRT : Hid (RowL w6 (some ⟨g, kk * 4, none⟩) (List.drop kk ls)) := RowL.drop HB6.out.2 kk
            go_wp2_with fail
            refine (zzAt vid id aM asb nM cM ss.length cs (List.take kk ls) _ _ _ _ ((HB6.out.2.take kk).kept (((Below.refl _ _).alloc (Nat.le_refl _) _).alloc (by simp) _)) (by first | (rw [List.length_take]; omega) | simp) (by first | omega | simp)).mono ?_
            rintro e w7 ⟨⟨l1, l2, l3⟩, lb, rfl, hlf, hb7⟩
            simp only at hlf ⊢
            have HB7 : Hid (Below w6.heap.size w6 w7) := (((Below.refl _ _).alloc (Nat.le_refl _) _).alloc (by simp) _).trans (hb7.mono (by simp; omega))
            have hs7 : w6.heap.size + 1 < w7.heap.size := by have := hb7.size; simp at this; omega
            have q0 : w7.cell? ⟨w6.heap.size + 1, 0, none⟩ = some (.int .u64 vid) := by rw [hb7.cell (p := ⟨w6.heap.size + 1, 0, none⟩) (by simp)]; simp
            have q1 : w7.cell? ⟨w6.heap.size + 1, 1, none⟩ = some (.slice aM nM cM) := by rw [hb7.cell (p := ⟨w6.heap.size + 1, 1, none⟩) (by simp)]; simp
            have q2 : w7.cell? ⟨w6.heap.size + 1, 2, none⟩ = some (.slice (some ⟨g, kk * 4, none⟩) (ls.length - kk) (ls.length - kk)) := by rw [hb7.cell (p := ⟨w6.heap.size + 1, 2, none⟩) (by simp)]; simp
            have q3 : w7.cell? ⟨w6.heap.size + 1, 3, none⟩ = some (.slice asb ss.length cs) := by rw [hb7.cell (p := ⟨w6.heap.size + 1, 3, none⟩) (by simp)]; simp
            have HL : Hid ((lb = true ∧ fnd (List.take kk ls) id = some (l1, l2, l3)) ∨ (lb = false ∧ fnd (List.take kk ls) id = none ∧ (l1, l2, l3) = mb0)) := hlf
            clear hlf hb7
            have hqn : ¬ w6.heap.size + 1 = w7.heap.size := by omega
            go_wp2_with fail
            refine (zzAt vid id aM asb nM cM ss.length cs (List.drop kk ls) _ _ _ _ (HRT.out.kept (HB7.out.alloc HB7.out.size _)) (by first | (rw [List.length_drop]; done) | (rw [List.length_drop]; omega) | simp) (by first | omega | simp)).mono ?_
            rintro e w8 ⟨⟨t1, t2, t3⟩, tb, rfl, hrf, hb8⟩
            simp only at hrf ⊢
            have HB8 : Hid (Below w6.heap.size w6 w8) := (HB7.out.alloc HB7.out.size _).trans (hb8.mono (by have := HB7.out.size; simp; omega))
            have x0 : w8.cell? ⟨w7.heap.size, 0, none⟩ = some (.string l1) := by rw [hb8.cell (p := ⟨w7.heap.size, 0, none⟩) (by simp)]; simp
            have x1 : w8.cell? ⟨w7.heap.size, 1, none⟩ = some (.string l2) := by rw [hb8.cell (p := ⟨w7.heap.size, 1, none⟩) (by simp)]; simp
            have x2 : w8.cell? ⟨w7.heap.size, 2, none⟩ = some (.int .u64 l3) := by rw [hb8.cell (p := ⟨w7.heap.size, 2, none⟩) (by simp)]; simp
            have hs8 : w7.heap.size < w8.heap.size := by have := hb8.size; simp at this; omega
            have hs78 : ¬ w7.heap.size = w8.heap.size := by omega
            have hgs8 : G < w8.heap.size := by omega
            have y0 : w8.cell? ⟨G, 0, none⟩ = some (.string m1) := by rw [HB8.out.cell (p := ⟨G, 0, none⟩) hGl]; exact r0
            have y1 : w8.cell? ⟨G, 1, none⟩ = some (.string m2) := by rw [HB8.out.cell (p := ⟨G, 1, none⟩) hGl]; exact r1
            have y2 : w8.cell? ⟨G, 2, none⟩ = some (.int .u64 m3) := by rw [HB8.out.cell (p := ⟨G, 2, none⟩) hGl]; exact r2
            have hgn8 : ¬ G = w8.heap.size := by omega
            have HBE : Hid (Below w.heap.size w w8) := HB6.out.1.trans (HB8.out.mono HB6.out.1.size)
            have hfin := fin_law HF.out HL.out hrf
            clear hrf hb8 HL
            rcases hfin with ⟨_, hno, _⟩ | ⟨rfl, rfl, he⟩
            · cases hno
            all_goals
              simp only [Prod.mk.injEq] at he
              obtain ⟨rfl, rfl, rfl⟩ := he
              go_wp2_with fail
              refine (sameWire_true _ _ _ _).mono ?_
              rintro e w9 ⟨rfl, hb9⟩
              have HB9 : Hid (Below w.heap.size w w9) := (HBE.out.alloc HBE.out.size _).trans (hb9.mono (by have := HBE.out.size; simp; omega))
              clear hb9
              go_wp2_with fail
              go_ret
              exact ⟨rfl, HB9.out⟩

end Go.Proofs.Qxb6617401a
