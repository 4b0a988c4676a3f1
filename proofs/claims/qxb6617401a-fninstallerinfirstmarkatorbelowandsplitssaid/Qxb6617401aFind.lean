/-
  THE WALK of installerIn.
-/
import Derived.Test.Qxb6617401aBase
namespace Go.Proofs.Qxb6617401a
open Go.RowKit

/-- A member: name, address, incarnation. A mark: an ID and a member. -/
abbrev Mb := ByteArray × ByteArray × Int
abbrev Mk := Int × Mb
def mb0 : Mb := (⟨#[]⟩, ⟨#[]⟩, 0)
def mk0 : Mk := (0, mb0)

/-- A line of marks lies in memory, four cells a mark. -/
def RowL (w : World) (ao : Option Addr) (ls : List Mk) : Prop :=
  ∀ i, i < ls.length → ∃ b off, ao = some ⟨b, off, none⟩ ∧ w.cell? ⟨b, off + i * 4, none⟩ = some (.int .u64 (ls.getD i mk0).1) ∧ w.cell? ⟨b, off + i * 4 + 1, none⟩ = some (.string (ls.getD i mk0).2.1)
    ∧ w.cell? ⟨b, off + i * 4 + 1 + 1, none⟩ = some (.string (ls.getD i mk0).2.2.1) ∧ w.cell? ⟨b, off + i * 4 + 1 + 1 + 1, none⟩ = some (.int .u64 (ls.getD i mk0).2.2.2) ∧ b < w.heap.size

theorem RowL.kept {w w' : World} {ao : Option Addr} {ls : List Mk} (h : RowL w ao ls) (hb : Below w.heap.size w w') : RowL w' ao ls := by
  intro i hi
  obtain ⟨b, off, e, h0, h1, h2, h3, hlt⟩ := h i hi
  have k : ∀ o, w'.cell? ⟨b, o, none⟩ = w.cell? ⟨b, o, none⟩ := fun o => hb.cell (p := ⟨b, o, none⟩) hlt
  exact ⟨b, off, e, by rw [k]; exact h0, by rw [k]; exact h1, by rw [k]; exact h2, by rw [k]; exact h3, Nat.lt_of_lt_of_le hlt hb.size⟩

/-- installerIn, plainly. -/
def fnd (ls : List Mk) (id : Int) : Option Mb := (ls.find? (fun m => decide (m.1 ≤ id))).map (·.2)

theorem fnd_cons (x : Mk) (ls : List Mk) (id : Int) : fnd (x :: ls) id = if x.1 ≤ id then some x.2 else fnd ls id := by
  unfold fnd
  rw [List.find?_cons]
  by_cases h : x.1 ≤ id
  · simp [h]
  · simp [h]

theorem fnd_some (ls : List Mk) (id : Int) : ∀ k, k < ls.length → (ls.getD k mk0).1 ≤ id → (∀ j, j < k → ¬ (ls.getD j mk0).1 ≤ id) → fnd ls id = some (ls.getD k mk0).2 := by
  induction ls with
  | nil => intro k hk; simp at hk
  | cons x ls ih =>
    intro k hk h1 h2
    rw [fnd_cons]
    cases k with
    | zero => rw [if_pos (by simpa using h1)]; rfl
    | succ k =>
      rw [if_neg (by simpa using h2 0 (by omega))]
      exact ih k (by simpa using hk) (by simpa using h1) (fun j hj => by simpa using h2 (j + 1) (by omega))

theorem fnd_none (ls : List Mk) (id : Int) : (∀ j, j < ls.length → ¬ (ls.getD j mk0).1 ≤ id) → fnd ls id = none := by
  induction ls with
  | nil => intro _; rfl
  | cons x ls ih =>
    intro h
    rw [fnd_cons, if_neg (by simpa using h 0 (by simp))]
    exact ih (fun j hj => by simpa using h (j + 1) (by simpa using hj))

/-- What installerIn says. -/
def FindSays (ls : List Mk) (id : Int) (w : World) (e : Ending) (w' : World) : Prop :=
  ∃ (m : Mb) (b : Bool), e = .returned (.tuple #[.agg #[.string m.1, .string m.2.1, .int .u64 m.2.2], .bool b]) ∧ ((b = true ∧ fnd ls id = some m) ∨ (b = false ∧ fnd ls id = none ∧ m = mb0)) ∧ Below w.heap.size w w'

set_option maxHeartbeats 1000000 in
theorem installer_any (vid id : Int) (am asb : Option Addr) (nm cm ns cs : Nat) (ls : List Mk) (ao : Option Addr) (c : Nat) (w : World) (hrow : RowL w ao ls) (hn : ls.length ≤ 1048576) :
    Calls Try.prog 15 #[.agg #[.int .u64 vid, .slice am nm cm, .slice ao ls.length c, .slice asb ns cs], .int .u64 id] w fun e w' => FindSays ls id w e w' := by
  have hrow0 := hrow.kept ((Below.refl w.heap.size w).alloc (Nat.le_refl _) (.cells #[.int .u64 vid, .slice am nm cm, .slice ao ls.length c, .slice asb ns cs] 33))
  have hrow1 := hrow0.kept ((Below.refl _ _).alloc (Nat.le_refl _) (.cells #[.string ⟨#[]⟩, .string ⟨#[]⟩, .int .u64 0] 35))
  obtain ⟨W0, HW0⟩ : ∃ W0, Hid (W0 = (w.alloc (.cells #[.int .u64 vid, .slice am nm cm, .slice ao ls.length c, .slice asb ns cs] 33)).alloc (.cells #[.string ⟨#[]⟩, .string ⟨#[]⟩, .int .u64 0] 35)) := ⟨_, rfl⟩
  rw [← HW0.out] at hrow1
  have HR1 : Hid (RowL W0 ao ls) := hrow1
  obtain ⟨R, HRR⟩ : ∃ R, Hid (R = w.heap.size + 1) := ⟨_, rfl⟩
  have HBK : Hid (W0.heap[R]? = some (.cells #[.string ⟨#[]⟩, .string ⟨#[]⟩, .int .u64 0] 35 (0, 0)) ∧ R < W0.heap.size ∧ Below w.heap.size w W0 ∧ w.heap.size ≤ R) := by
    refine ⟨?_, ?_, ?_, ?_⟩
    · rw [HW0.out, HRR.out]
      have := heap_alloc_new (w.alloc (.cells #[.int .u64 vid, .slice am nm cm, .slice ao ls.length c, .slice asb ns cs] 33)) (.cells #[.string ⟨#[]⟩, .string ⟨#[]⟩, .int .u64 0] 35)
      simpa using this
    · rw [HW0.out, HRR.out]; simp
    · rw [HW0.out]; exact ((Below.refl _ _).alloc (Nat.le_refl _) _).alloc (by simp) _
    · rw [HRR.out]; omega
  clear hrow hrow0 hrow1
  go_enter Try.func15, Try.ntmps15
  go_wp2_with fail
  rw [← HW0.out, ← HRR.out]
  go_loopg [11, 7] ls.length (fun g t s wr => ∃ k : Nat, Hid (k + g = ls.length) ∧ t = .int .i64 k ∧ Hid (Below W0.heap.size W0 wr ∧ ∀ j, j < k → ¬ (ls.getD j mk0).1 ≤ id))
  case atStart => exact ⟨0, Nat.zero_add _, rfl, Below.refl _ _, fun j hj => by omega⟩
  case round =>
    obtain ⟨k, hk, rfl, hb⟩ := hrel
    have hblk : wr.heap[R]? = some (.cells #[.string ⟨#[]⟩, .string ⟨#[]⟩, .int .u64 0] 35 (0, 0)) := (hb.out.1.block R HBK.out.2.1).trans HBK.out.1
    have hRl : R < wr.heap.size := Nat.lt_of_lt_of_le HBK.out.2.1 hb.out.1.size
    have r0 : wr.cell? ⟨R, 0, none⟩ = some (.string ⟨#[]⟩) := by simp [World.cell?, hblk]
    have r1 : wr.cell? ⟨R, 1, none⟩ = some (.string ⟨#[]⟩) := by simp [World.cell?, hblk]
    have r2 : wr.cell? ⟨R, 2, none⟩ = some (.int .u64 0) := by simp [World.cell?, hblk]
    have rf : ∀ o, wr.frozen? ⟨R, o, none⟩ = false := fun o => by simp [World.frozen?, hblk]
    clear hblk
    have HB2 : Hid (Below w.heap.size w wr) := HBK.out.2.2.1.trans (hb.out.1.mono HBK.out.2.2.1.size)
    by_cases hlt : k < ls.length
    · obtain ⟨b, off, rfl, h0, h1, h2, h3, hl⟩ := HR1.out.kept hb.out.1 k hlt
      have HF1 := fnd_some ls id k hlt
      have HNX : Hid (¬ (ls.getD k mk0).1 ≤ id → ∀ j, j < k + 1 → ¬ (ls.getD j mk0).1 ≤ id) := fun h j hj => by
        by_cases e : j = k
        · subst e; exact h
        · exact hb.out.2 j (by omega)
      have HF : Hid ((ls.getD k mk0).1 ≤ id → fnd ls id = some (ls.getD k mk0).2) := fun h => HF1 h hb.out.2
      clear HF1
      generalize ls.getD k mk0 = z at h0 h1 h2 h3 HF HNX
      obtain ⟨z1, z2, z3, z4⟩ := z
      simp only at h0 h1 h2 h3
      have hbw : ¬ b = wr.heap.size := by omega
      by_cases hz : z1 ≤ id
      · go_wp2_with fail
        refine bodyPost_ret (v := .tuple #[.agg #[.string z2, .string z3, .int .u64 z4], .bool true]) (by simp [results, Try.results15, go_sem, hRl, r0, r1, r2]) rfl ?_
        exact ⟨(z2, z3, z4), true, rfl, .inl ⟨rfl, HF.out hz⟩, (((HB2.out.setCell HBK.out.2.2.2 _).setCell HBK.out.2.2.2 _).setCell HBK.out.2.2.2 _).alloc (by have := HB2.out.size; simp; omega) _⟩
      · go_wp2_with fail
        go_roundg (gk - 1)
        case measure => have := hk.out; omega
        case rel => exact ⟨k + 1, (by have := hk.out; show k + 1 + (gk - 1) = ls.length; omega), by go_num, hb.out.1.alloc hb.out.1.size _, HNX.out hz⟩
    · have HF : Hid (fnd ls id = none) := fnd_none ls id (fun j hj => hb.out.2 j (by have := hk.out; omega))
      go_wp2_with fail
      refine bodyPost_ret (v := .tuple #[.agg #[.string ⟨#[]⟩, .string ⟨#[]⟩, .int .u64 0], .bool false]) (by simp [results, Try.results15, go_sem, r0, r1, r2]) rfl ?_
      exact ⟨mb0, false, rfl, .inr ⟨rfl, HF.out, rfl⟩, ((HB2.out.setCell HBK.out.2.2.2 _).setCell HBK.out.2.2.2 _).setCell HBK.out.2.2.2 _⟩

/-- ZZinstallerIn. -/
theorem zzInstaller_any (vid id : Int) (am asb : Option Addr) (nm cm ns cs : Nat) (ls : List Mk) (ao : Option Addr) (c : Nat) (w : World) (hrow : RowL w ao ls) (hn : ls.length ≤ 1048576) :
    Calls Try.prog 8 #[.agg #[.int .u64 vid, .slice am nm cm, .slice ao ls.length c, .slice asb ns cs], .int .u64 id] w fun e w' => FindSays ls id w e w' := by
  have hrow0 := hrow.kept ((Below.refl w.heap.size w).alloc (Nat.le_refl _) (.cells #[.int .u64 vid, .slice am nm cm, .slice ao ls.length c, .slice asb ns cs] 33))
  have hrow1 := hrow0.kept ((Below.refl _ _).alloc (Nat.le_refl _) (.cells #[.string ⟨#[]⟩, .string ⟨#[]⟩, .int .u64 0] 35))
  have HR1 : Hid (RowL ((w.alloc (.cells #[.int .u64 vid, .slice am nm cm, .slice ao ls.length c, .slice asb ns cs] 33)).alloc (.cells #[.string ⟨#[]⟩, .string ⟨#[]⟩, .int .u64 0] 35)) ao ls) := hrow1
  clear hrow hrow0 hrow1
  go_enter Try.func8, Try.ntmps8
  go_wp2_with fail
  refine (installer_any vid id am asb nm cm ns cs ls ao c _ HR1.out hn).mono ?_
  rintro e w1 ⟨m, b, rfl, hr, hb⟩
  obtain ⟨m1, m2, m3⟩ := m
  simp only
  have hsz : w.heap.size + 1 < w1.heap.size := by have := hb.size; simp at this; omega
  have k0 : w1.cell? ⟨w.heap.size + 1, 0, none⟩ = some (.string ⟨#[]⟩) := by rw [hb.cell (p := ⟨w.heap.size + 1, 0, none⟩) (by simp)]; simp
  have k1 : w1.cell? ⟨w.heap.size + 1, 1, none⟩ = some (.string ⟨#[]⟩) := by rw [hb.cell (p := ⟨w.heap.size + 1, 1, none⟩) (by simp)]; simp
  have k2 : w1.cell? ⟨w.heap.size + 1, 2, none⟩ = some (.int .u64 0) := by rw [hb.cell (p := ⟨w.heap.size + 1, 2, none⟩) (by simp)]; simp
  have kf : ∀ o, w1.frozen? ⟨w.heap.size + 1, o, none⟩ = false := fun o => by rw [hb.frozen (p := ⟨w.heap.size + 1, o, none⟩) (by simp)]; simp
  have HB : Hid (Below w.heap.size w w1) := (((Below.refl _ _).alloc (Nat.le_refl _) _).alloc (by simp) _).trans (hb.mono (by simp; omega))
  have HRR : Hid ((b = true ∧ fnd ls id = some (m1, m2, m3)) ∨ (b = false ∧ fnd ls id = none ∧ (m1, m2, m3) = mb0)) := hr
  clear hb hr
  go_wp2_with fail
  refine bodyPost_ret (v := .tuple #[.agg #[.string m1, .string m2, .int .u64 m3], .bool b]) (by simp [results, Try.results8, go_sem, k0, k1, k2]) rfl ?_
  exact ⟨(m1, m2, m3), b, rfl, HRR.out, ((HB.out.setCell (by simp) _).setCell (by simp) _).setCell (by simp) _⟩

end Go.Proofs.Qxb6617401a
