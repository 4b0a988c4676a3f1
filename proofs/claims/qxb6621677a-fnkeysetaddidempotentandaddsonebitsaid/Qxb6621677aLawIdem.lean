/-
  THE WALK of FnKeySetAddIdempotentAndAddsOneBit, out of the contracts.
-/
import Derived.Test.Qxb6621677aZZ
import Derived.Test.Qxb6621677aReads
namespace Go.Proofs.Qxb6621677a
open Go.RowKit

set_option maxHeartbeats 2000000 in
/-- Outside the law's bounds. -/
theorem idem_early (f : Int) (ms : List Int) (ao : Option Addr) (cap : Nat) (i : Int) (w : World) (hn : ms.length ≤ maxLen) (h : ¬ ms.length ≤ 65536 ∨ i < 0 ∨ 65536 < i) :
    Calls Try.prog 5 #[.int .u64 f, .slice ao ms.length cap, .int .i64 i] w fun e w' => e = .returned (.bool true) ∧ Below w.heap.size w w' := by
  have hm := hn
  unfold maxLen at hm
  by_cases h1 : ms.length ≤ 65536
  · by_cases h2 : i < 0
    · skip
      clear h
      go_enter Try.func5, Try.ntmps5
      go_wp2_with fail
      refine (bytes14 _ _ _ _ _ _ hn).mono ?_
      rintro e w' ⟨⟨g, rfl⟩, rfl⟩
      cases g
      all_goals
        go_wp2_with fail
        go_ret
        exact ⟨rfl, Below.refl _ _⟩
    · have h3 : 65536 < i := by omega
      clear h
      go_enter Try.func5, Try.ntmps5
      go_wp2_with fail
      refine (bytes14 _ _ _ _ _ _ hn).mono ?_
      rintro e w' ⟨⟨g, rfl⟩, rfl⟩
      cases g
      all_goals
        go_wp2_with fail
        go_ret
        exact ⟨rfl, Below.refl _ _⟩
  · skip
    clear h
    go_enter Try.func5, Try.ntmps5
    go_wp2_with fail
    refine (bytes14 _ _ _ _ _ _ hn).mono ?_
    rintro e w' ⟨⟨g, rfl⟩, rfl⟩
    cases g
    all_goals
      go_wp2_with fail
      go_ret
      exact ⟨rfl, Below.refl _ _⟩

theorem zero_and (y : Int) (h : Wd y) : bits .and .u64 0 y = 0 := by
  rw [u64_and 0 y (by omega) (by omega) h.1 h.2]
  simp

/-- The old words are kept. -/
theorem and_add (ms : List Int) (i : Nat) (hw : WdL ms) (k : Nat) : bits .and .u64 (ms.getD k 0) ((addM ms i).getD k 0) = ms.getD k 0 := by
  rw [addM_getD]
  split
  · exact and_orb _ _ (hw k) (Nat.mod_lt _ (by decide))
  · exact and_self_wd _ (hw k)
theorem and_addF (f : Int) (i : Nat) (hf : Wd f) : bits .and .u64 f (addF f i) = f := by
  unfold addF
  split
  · rename_i h; exact and_orb _ _ hf h
  · exact and_self_wd _ hf

set_option maxRecDepth 100000 in
set_option maxHeartbeats 8000000 in
theorem idem_any (f : Int) (ms : List Int) (ao : Option Addr) (cap : Nat) (i : Nat) (w : World) (hrow : Row .u64 w ao ms) (hnil : ao = none → ms = []) (hf : Wd f) (hw : WdL ms) (hn : ms.length ≤ 65536) (hi : i ≤ 65536) :
    Calls Try.prog 5 #[.int .u64 f, .slice ao ms.length cap, .int .i64 i] w fun e w' => e = .returned (.bool true) ∧ Below w.heap.size w w' := by
  have HR : Hid (Row .u64 w ao ms ∧ (ao = none → ms = []) ∧ Wd f ∧ WdL ms) := ⟨hrow, hnil, hf, hw⟩
  clear hrow hnil hf hw
  have i1 : (i : Int) ≤ 65536 := by omega
  go_enter Try.func5, Try.ntmps5
  go_wp2_with fail
  refine (bytes14 _ _ _ _ _ _ (by unfold maxLen; omega)).mono ?_
  rintro e w' ⟨⟨g, rfl⟩, rfl⟩
  cases g
  · go_wp2_with fail
    go_ret
    exact ⟨rfl, Below.refl _ _⟩
  go_wp2_with fail
  refine (clone_any ms ao cap _ HR.out.1 HR.out.2.1 (by omega)).mono ?_
  rintro e w1 ⟨v1, rfl, hO1, hb1⟩
  obtain ⟨ao1, c1, hv, hn1, hR1, hg1⟩ := hO1.shape
  subst hv
  have H1 : Hid (Row .u64 w1 ao1 ms ∧ (ao1 = none → ms = []) ∧ Below w.heap.size w w1) := ⟨hR1, hn1, hb1⟩
  clear hO1 hb1 hn1 hR1 hg1
  go_wp2_with fail
  refine (clone_any ms ao1 c1 _ H1.out.1 H1.out.2.1 (by omega)).mono ?_
  rintro e w2 ⟨v2, rfl, hO2, hb2⟩
  obtain ⟨ao2, c2, hv, _⟩ := hO2.shape
  subst hv
  have H2 : Hid (Own w1.heap.size w2 (.slice ao2 ms.length c2) ms ∧ Below w1.heap.size w1 w2) := ⟨hO2, hb2⟩
  clear hO2 hb2
  go_wp2_with fail
  refine (zzAdd_any f ms i w1.heap.size ao2 c2 _ H2.out.1 H2.out.2.size HR.out.2.2.1 HR.out.2.2.2 (by omega) (by omega)).mono ?_
  rintro e w3 ⟨v3, rfl, hO3, hb3⟩
  obtain ⟨ys, HY⟩ : ∃ ys, Hid (ys = addM ms i) := ⟨_, rfl⟩
  obtain ⟨F, HF⟩ : ∃ F, Hid (F = addF f i) := ⟨_, rfl⟩
  rw [← HY.out] at hO3
  rw [← HF.out]
  have hyl : ys.length = max ms.length (i / 64) := by rw [HY.out, addM_length]
  have hyb : ys.length ≤ 65536 := by omega
  obtain ⟨ao3, c3, hv, hn3, hR3, _⟩ := hO3.shape
  subst hv
  have hb13 : Below w1.heap.size w1 w3 := H2.out.2.trans hb3
  have H3 : Hid (Row .u64 w3 ao3 ys ∧ (ao3 = none → ys = []) ∧ Row .u64 w3 ao1 ms ∧ Below w.heap.size w w3 ∧ Wd F ∧ WdL ys) := ⟨hR3, hn3, H1.out.1.kept hb13, H1.out.2.2.trans (hb13.mono H1.out.2.2.size), by rw [HF.out]; exact addF_wd HR.out.2.2.1 i, by rw [HY.out]; exact HR.out.2.2.2.add i⟩
  have HYL : Hid (ys.length = max ms.length (i / 64)) := hyl
  clear hO3 hb3 hn3 hR3 hb13 hyl
  go_wp2_with fail
  refine (clone_any ys ao3 c3 _ H3.out.1 H3.out.2.1 (by omega)).mono ?_
  rintro e w4 ⟨v4, rfl, hO4, hb4⟩
  obtain ⟨ao4, c4, hv, _⟩ := hO4.shape
  subst hv
  have H4 : Hid (Own w3.heap.size w4 (.slice ao4 ys.length c4) ys ∧ Below w3.heap.size w3 w4) := ⟨hO4, hb4⟩
  clear hO4 hb4
  go_wp2_with fail
  refine (zzAdd_any F ys i w3.heap.size ao4 c4 _ H4.out.1 H4.out.2.size H3.out.2.2.2.2.1 H3.out.2.2.2.2.2 (by omega) (by omega)).mono ?_
  rintro e w5 ⟨v5, rfl, hO5, hb5⟩
  have ey : addM ys i = ys := by rw [HY.out]; exact addM_idem ms i
  have ef : addF F i = F := by rw [HF.out]; exact addF_idem f i
  rw [ey] at hO5
  rw [ef]
  clear ey ef
  obtain ⟨ao5, c5, hv, _, hR5, _⟩ := hO5.shape
  subst hv
  have hb35 : Below w3.heap.size w3 w5 := H4.out.2.trans hb5
  have H5 : Hid (Row .u64 w5 ao5 ys ∧ Row .u64 w5 ao3 ys ∧ Row .u64 w5 ao1 ms ∧ Below w.heap.size w w5) := ⟨hR5, H3.out.1.kept hb35, H3.out.2.2.1.kept hb35, H3.out.2.2.2.1.trans (hb35.mono H3.out.2.2.2.1.size)⟩
  clear hO5 hb5 hR5 hb35
  go_wp2_with fail
  refine (eq_true ys ao5 ao3 c5 c3 _ H5.out.1 H5.out.2.1 (by omega)).mono ?_
  rintro e w' ⟨rfl, nq, rfl⟩
  have HQ : Hid (Row .u64 (w5.drewN nq) ao1 ms ∧ Wd f ∧ WdL ms ∧ Row .u64 (w5.drewN nq) ao3 ys ∧ Wd F ∧ WdL ys) := ⟨H5.out.2.2.1.drewN nq, HR.out.2.2.1, HR.out.2.2.2, H5.out.2.1.drewN nq, H3.out.2.2.2.2.1, H3.out.2.2.2.2.2⟩
  have HB : Hid (Below w.heap.size w (w5.drewN nq)) := below_drewN H5.out.2.2.2 nq
  generalize w5.drewN nq = wx at HQ HB ⊢
  have HP : Hid (has F ys i = true ∧ ∀ k, bits .and .u64 (ms.getD k 0) (ys.getD k 0) = ms.getD k 0) := by
    refine ⟨?_, fun k => ?_⟩
    · rw [HF.out, HY.out, has_add]; simp
    · rw [HY.out]; exact and_add ms i HR.out.2.2.2 k
  have hfF : bits .and .u64 f F = f := by rw [HF.out]; exact and_addF f i HR.out.2.2.1
  obtain ⟨pF, HPF⟩ : ∃ pF : Nat, Hid (pop f = pF) := ⟨_, rfl⟩
  obtain ⟨pG, HPG⟩ : ∃ pG : Nat, Hid (pop F = pG) := ⟨_, rfl⟩
  have hPF : pF ≤ 64 := by rw [← HPF.out]; exact pop_le f
  have hPG : pG ≤ 64 := by rw [← HPG.out]; exact pop_le F
  have HCT : Hid (pG + psum ys ys.length = pF + psum ms ms.length + (if has f ms i then 0 else 1)) := by
    show pG + psum ys ys.length = pF + psum ms ms.length + (if has f ms i then 0 else 1)
    rw [← HPF.out, ← HPG.out, HF.out, HY.out]
    refine count_add f ms i _ ?_
    rw [addM_length]
  obtain ⟨a, ha⟩ : ∃ a : Nat, a = i / 64 := ⟨_, rfl⟩
  have hai : (i : Int) / 64 = a := by omega
  have hab : (a : Int) ≤ 1024 := by omega
  have hyl : ys.length = max ms.length a := by rw [ha]; exact HYL.out
  clear ha H1 H2 H3 H4 H5 HYL HR HF HY
  by_cases ca : ms.length < a
  · have y1 : (ys.length : Int) ≤ a := by omega
    have y2 : (a : Int) ≤ ys.length := by omega
    clear hyl
    have yz : ((ys.length : Int) != (a : Int)) = false := by rw [bne_eq_false_iff_eq]; omega
    go_wp2_with fail
    refine (has_any F ys ao3 c3 i _ HQ.out.2.2.2.1 HQ.out.2.2.2.2.1 HQ.out.2.2.2.2.2 (by omega) (by omega)).mono ?_
    rintro e w' ⟨rfl, rfl⟩
    rw [HP.out.1]
    go_wp2_with fail
    refine (pop_any f _ HQ.out.2.1).mono ?_
    rintro e w' ⟨rfl, rfl⟩
    go_wp2_with fail
    refine (pop_any F _ HQ.out.2.2.2.2.1).mono ?_
    rintro e w' ⟨rfl, rfl⟩
    rw [HPF.out, HPG.out]
    go_wp2_with fail
    go_loopg [13, 14] ys.length (fun g s t wr => ∃ k : Nat, Hid (k + g = ys.length) ∧ t = .int .i64 k ∧ s = .int .i64 ((pG + psum ys k : Nat) : Int) ∧ wx = wr)
    case atStart => exact ⟨0, Nat.zero_add _, rfl, rfl, rfl⟩
    case round =>
      obtain ⟨k, hk, rfl, rfl, rfl⟩ := hrel
      by_cases hlt : k < ys.length
      · obtain ⟨y, HYK⟩ : ∃ y, Hid (ys.getD k 0 = y) := ⟨_, rfl⟩
        obtain ⟨z, HZK⟩ : ∃ z, Hid (ms.getD k 0 = z) := ⟨_, rfl⟩
        obtain ⟨s, HSK⟩ : ∃ s : Nat, Hid (pG + psum ys k = s) := ⟨_, rfl⟩
        have hwy : Wd y := by rw [← HYK.out]; exact HQ.out.2.2.2.2.2 k
        have hsb : (s : Int) ≤ 10000000 := by have := HSK.out; have := psum_le ys k; have := hPG; omega
        have hand : bits .and .u64 z y = z := by rw [← HZK.out, ← HYK.out]; exact HP.out.2 k
        obtain ⟨b, off, rfl, hc⟩ := HQ.out.2.2.2.1 k hlt
        rw [HYK.out] at hc
        rw [HSK.out]
        have pb := pop_le y
        obtain ⟨py, HPY⟩ : ∃ py : Nat, Hid (pop y = py) := ⟨_, rfl⟩
        rw [HPY.out] at pb
        have HSN : Hid (pG + psum ys (k + 1) = s + py) := by show pG + psum ys (k + 1) = s + py; rw [psum, HYK.out, HPY.out, ← HSK.out]; omega
        by_cases hlm : k < ms.length
        · obtain ⟨b', off', rfl, hc'⟩ := HQ.out.1 k hlm
          rw [HZK.out] at hc'
          go_wp2_with fail
          refine (pop_any y _ hwy).mono ?_
          rintro e w' ⟨rfl, rfl⟩
          rw [HPY.out]
          go_wp2_with fail
          go_roundg (gk - 1)
          case measure => have := hk.out; omega
          case rel => exact ⟨k + 1, (by have := hk.out; show k + 1 + (gk - 1) = ys.length; omega), by go_num, by rw [HSN.out]; go_num, rfl⟩
        · have hz0 : z = 0 := by rw [← HZK.out, List.getD_eq_getElem?_getD, List.getElem?_eq_none (by omega)]; rfl
          subst hz0
          go_wp2_with fail
          refine (pop_any y _ hwy).mono ?_
          rintro e w' ⟨rfl, rfl⟩
          rw [HPY.out]
          go_wp2_with fail
          go_roundg (gk - 1)
          case measure => have := hk.out; omega
          case rel => exact ⟨k + 1, (by have := hk.out; show k + 1 + (gk - 1) = ys.length; omega), by go_num, by rw [HSN.out]; go_num, rfl⟩
      · obtain ⟨sA, HSA⟩ : ∃ sA : Nat, Hid (pG + psum ys k = sA) := ⟨_, rfl⟩
        have HSA2 : Hid (pG + psum ys ys.length = sA) := by show pG + psum ys ys.length = sA; rw [show ys.length = k by have := hk.out; omega]; exact HSA.out
        rw [HSA.out]
        have hsab : (sA : Int) ≤ 10000000 := by have := HSA2.out; have := psum_le ys ys.length; have := hPG; omega
        clear hk HSA
        go_wp2_with fail
        go_loopg [12, 16] ms.length (fun g s t wr => ∃ k : Nat, Hid (k + g = ms.length) ∧ t = .int .i64 k ∧ s = .int .i64 ((pF + psum ms k : Nat) : Int) ∧ wx = wr)
        case atStart => exact ⟨0, Nat.zero_add _, rfl, rfl, rfl⟩
        case round =>
          clear hlt
          obtain ⟨k, hk, rfl, rfl, rfl⟩ := hrel
          by_cases hlt : k < ms.length
          · obtain ⟨y, HYK⟩ : ∃ y, Hid (ms.getD k 0 = y) := ⟨_, rfl⟩
            obtain ⟨s, HSK⟩ : ∃ s : Nat, Hid (pF + psum ms k = s) := ⟨_, rfl⟩
            have hwy : Wd y := by rw [← HYK.out]; exact HQ.out.2.2.1 k
            have hsb : (s : Int) ≤ 10000000 := by have := HSK.out; have := psum_le ms k; have := hPF; omega
            obtain ⟨b, off, rfl, hc⟩ := HQ.out.1 k hlt
            rw [HYK.out] at hc
            rw [HSK.out]
            have pb := pop_le y
            obtain ⟨py, HPY⟩ : ∃ py : Nat, Hid (pop y = py) := ⟨_, rfl⟩
            rw [HPY.out] at pb
            have HSN : Hid (pF + psum ms (k + 1) = s + py) := by show pF + psum ms (k + 1) = s + py; rw [psum, HYK.out, HPY.out, ← HSK.out]; omega
            go_wp2_with fail
            refine (pop_any y _ hwy).mono ?_
            rintro e w' ⟨rfl, rfl⟩
            rw [HPY.out]
            go_wp2_with fail
            go_roundg (gk - 1)
            case measure => have := hk.out; omega
            case rel => exact ⟨k + 1, (by have := hk.out; show k + 1 + (gk - 1) = ms.length; omega), by go_num, by rw [HSN.out]; go_num, rfl⟩
          · obtain ⟨sB, HSB⟩ : ∃ sB : Nat, Hid (pF + psum ms k = sB) := ⟨_, rfl⟩
            have HSB2 : Hid (pF + psum ms ms.length = sB) := by show pF + psum ms ms.length = sB; rw [show ms.length = k by have := hk.out; omega]; exact HSB.out
            rw [HSB.out]
            have hsbb : (sB : Int) ≤ 10000000 := by have := HSB2.out; have := psum_le ms ms.length; have := hPF; omega
            have hcount := HCT.out
            rw [HSA2.out, HSB2.out] at hcount
            clear hk HSB
            cases hg : has f ms i
            · rw [hg] at hcount
              have he : ((sA : Int) == (sB : Int) + 1) = true := by rw [beq_iff_eq]; simp at hcount; omega
              have HG : Hid (has f ms i = false) := hg
              clear hg hcount
              go_wp2_with fail
              refine (has_any f ms ao1 c1 i _ HQ.out.1 HQ.out.2.1 HQ.out.2.2.1 (by omega) (by omega)).mono ?_
              rintro e w' ⟨rfl, rfl⟩
              rw [HG.out]
              go_wp2_with fail
              go_ret
              exact ⟨rfl, HB.out⟩
            · rw [hg] at hcount
              have he : ((sA : Int) == (sB : Int)) = true := by rw [beq_iff_eq]; simp at hcount; omega
              have HG : Hid (has f ms i = true) := hg
              clear hg hcount
              go_wp2_with fail
              refine (has_any f ms ao1 c1 i _ HQ.out.1 HQ.out.2.1 HQ.out.2.2.1 (by omega) (by omega)).mono ?_
              rintro e w' ⟨rfl, rfl⟩
              rw [HG.out]
              go_wp2_with fail
              go_ret
              exact ⟨rfl, HB.out⟩

  · have y1 : (ys.length : Int) ≤ ms.length := by omega
    have y2 : (ms.length : Int) ≤ ys.length := by omega
    clear hyl
    have yz : ((ys.length : Int) != (ms.length : Int)) = false := by rw [bne_eq_false_iff_eq]; omega
    go_wp2_with fail
    refine (has_any F ys ao3 c3 i _ HQ.out.2.2.2.1 HQ.out.2.2.2.2.1 HQ.out.2.2.2.2.2 (by omega) (by omega)).mono ?_
    rintro e w' ⟨rfl, rfl⟩
    rw [HP.out.1]
    go_wp2_with fail
    refine (pop_any f _ HQ.out.2.1).mono ?_
    rintro e w' ⟨rfl, rfl⟩
    go_wp2_with fail
    refine (pop_any F _ HQ.out.2.2.2.2.1).mono ?_
    rintro e w' ⟨rfl, rfl⟩
    rw [HPF.out, HPG.out]
    go_wp2_with fail
    go_loopg [13, 14] ys.length (fun g s t wr => ∃ k : Nat, Hid (k + g = ys.length) ∧ t = .int .i64 k ∧ s = .int .i64 ((pG + psum ys k : Nat) : Int) ∧ wx = wr)
    case atStart => exact ⟨0, Nat.zero_add _, rfl, rfl, rfl⟩
    case round =>
      obtain ⟨k, hk, rfl, rfl, rfl⟩ := hrel
      by_cases hlt : k < ys.length
      · obtain ⟨y, HYK⟩ : ∃ y, Hid (ys.getD k 0 = y) := ⟨_, rfl⟩
        obtain ⟨z, HZK⟩ : ∃ z, Hid (ms.getD k 0 = z) := ⟨_, rfl⟩
        obtain ⟨s, HSK⟩ : ∃ s : Nat, Hid (pG + psum ys k = s) := ⟨_, rfl⟩
        have hwy : Wd y := by rw [← HYK.out]; exact HQ.out.2.2.2.2.2 k
        have hsb : (s : Int) ≤ 10000000 := by have := HSK.out; have := psum_le ys k; have := hPG; omega
        have hand : bits .and .u64 z y = z := by rw [← HZK.out, ← HYK.out]; exact HP.out.2 k
        obtain ⟨b, off, rfl, hc⟩ := HQ.out.2.2.2.1 k hlt
        rw [HYK.out] at hc
        rw [HSK.out]
        have pb := pop_le y
        obtain ⟨py, HPY⟩ : ∃ py : Nat, Hid (pop y = py) := ⟨_, rfl⟩
        rw [HPY.out] at pb
        have HSN : Hid (pG + psum ys (k + 1) = s + py) := by show pG + psum ys (k + 1) = s + py; rw [psum, HYK.out, HPY.out, ← HSK.out]; omega
        by_cases hlm : k < ms.length
        · obtain ⟨b', off', rfl, hc'⟩ := HQ.out.1 k hlm
          rw [HZK.out] at hc'
          go_wp2_with fail
          refine (pop_any y _ hwy).mono ?_
          rintro e w' ⟨rfl, rfl⟩
          rw [HPY.out]
          go_wp2_with fail
          go_roundg (gk - 1)
          case measure => have := hk.out; omega
          case rel => exact ⟨k + 1, (by have := hk.out; show k + 1 + (gk - 1) = ys.length; omega), by go_num, by rw [HSN.out]; go_num, rfl⟩
        · have hz0 : z = 0 := by rw [← HZK.out, List.getD_eq_getElem?_getD, List.getElem?_eq_none (by omega)]; rfl
          subst hz0
          go_wp2_with fail
          refine (pop_any y _ hwy).mono ?_
          rintro e w' ⟨rfl, rfl⟩
          rw [HPY.out]
          go_wp2_with fail
          go_roundg (gk - 1)
          case measure => have := hk.out; omega
          case rel => exact ⟨k + 1, (by have := hk.out; show k + 1 + (gk - 1) = ys.length; omega), by go_num, by rw [HSN.out]; go_num, rfl⟩
      · obtain ⟨sA, HSA⟩ : ∃ sA : Nat, Hid (pG + psum ys k = sA) := ⟨_, rfl⟩
        have HSA2 : Hid (pG + psum ys ys.length = sA) := by show pG + psum ys ys.length = sA; rw [show ys.length = k by have := hk.out; omega]; exact HSA.out
        rw [HSA.out]
        have hsab : (sA : Int) ≤ 10000000 := by have := HSA2.out; have := psum_le ys ys.length; have := hPG; omega
        clear hk HSA
        go_wp2_with fail
        go_loopg [12, 16] ms.length (fun g s t wr => ∃ k : Nat, Hid (k + g = ms.length) ∧ t = .int .i64 k ∧ s = .int .i64 ((pF + psum ms k : Nat) : Int) ∧ wx = wr)
        case atStart => exact ⟨0, Nat.zero_add _, rfl, rfl, rfl⟩
        case round =>
          clear hlt
          obtain ⟨k, hk, rfl, rfl, rfl⟩ := hrel
          by_cases hlt : k < ms.length
          · obtain ⟨y, HYK⟩ : ∃ y, Hid (ms.getD k 0 = y) := ⟨_, rfl⟩
            obtain ⟨s, HSK⟩ : ∃ s : Nat, Hid (pF + psum ms k = s) := ⟨_, rfl⟩
            have hwy : Wd y := by rw [← HYK.out]; exact HQ.out.2.2.1 k
            have hsb : (s : Int) ≤ 10000000 := by have := HSK.out; have := psum_le ms k; have := hPF; omega
            obtain ⟨b, off, rfl, hc⟩ := HQ.out.1 k hlt
            rw [HYK.out] at hc
            rw [HSK.out]
            have pb := pop_le y
            obtain ⟨py, HPY⟩ : ∃ py : Nat, Hid (pop y = py) := ⟨_, rfl⟩
            rw [HPY.out] at pb
            have HSN : Hid (pF + psum ms (k + 1) = s + py) := by show pF + psum ms (k + 1) = s + py; rw [psum, HYK.out, HPY.out, ← HSK.out]; omega
            go_wp2_with fail
            refine (pop_any y _ hwy).mono ?_
            rintro e w' ⟨rfl, rfl⟩
            rw [HPY.out]
            go_wp2_with fail
            go_roundg (gk - 1)
            case measure => have := hk.out; omega
            case rel => exact ⟨k + 1, (by have := hk.out; show k + 1 + (gk - 1) = ms.length; omega), by go_num, by rw [HSN.out]; go_num, rfl⟩
          · obtain ⟨sB, HSB⟩ : ∃ sB : Nat, Hid (pF + psum ms k = sB) := ⟨_, rfl⟩
            have HSB2 : Hid (pF + psum ms ms.length = sB) := by show pF + psum ms ms.length = sB; rw [show ms.length = k by have := hk.out; omega]; exact HSB.out
            rw [HSB.out]
            have hsbb : (sB : Int) ≤ 10000000 := by have := HSB2.out; have := psum_le ms ms.length; have := hPF; omega
            have hcount := HCT.out
            rw [HSA2.out, HSB2.out] at hcount
            clear hk HSB
            cases hg : has f ms i
            · rw [hg] at hcount
              have he : ((sA : Int) == (sB : Int) + 1) = true := by rw [beq_iff_eq]; simp at hcount; omega
              have HG : Hid (has f ms i = false) := hg
              clear hg hcount
              go_wp2_with fail
              refine (has_any f ms ao1 c1 i _ HQ.out.1 HQ.out.2.1 HQ.out.2.2.1 (by omega) (by omega)).mono ?_
              rintro e w' ⟨rfl, rfl⟩
              rw [HG.out]
              go_wp2_with fail
              go_ret
              exact ⟨rfl, HB.out⟩
            · rw [hg] at hcount
              have he : ((sA : Int) == (sB : Int)) = true := by rw [beq_iff_eq]; simp at hcount; omega
              have HG : Hid (has f ms i = true) := hg
              clear hg hcount
              go_wp2_with fail
              refine (has_any f ms ao1 c1 i _ HQ.out.1 HQ.out.2.1 HQ.out.2.2.1 (by omega) (by omega)).mono ?_
              rintro e w' ⟨rfl, rfl⟩
              rw [HG.out]
              go_wp2_with fail
              go_ret
              exact ⟨rfl, HB.out⟩


end Go.Proofs.Qxb6621677a
