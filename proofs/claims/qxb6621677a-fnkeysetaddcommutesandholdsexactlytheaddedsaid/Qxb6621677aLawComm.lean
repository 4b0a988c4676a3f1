/-
  THE WALK of FnKeySetAddCommutesAndHoldsExactlyTheAdded, out of the contracts.
-/
import Derived.Test.Qxb6621677aZZ
import Derived.Test.Qxb6621677aReads
namespace Go.Proofs.Qxb6621677a
open Go.RowKit

set_option maxHeartbeats 2000000 in
/-- Outside the law's bounds. -/
theorem comm_early (f : Int) (ms : List Int) (ao : Option Addr) (cap : Nat) (i j : Int) (w : World) (hn : ms.length ≤ maxLen) (h : ¬ ms.length ≤ 65536 ∨ i < 0 ∨ 65536 < i ∨ j < 0 ∨ 65536 < j) :
    Calls Try.prog 4 #[.int .u64 f, .slice ao ms.length cap, .int .i64 i, .int .i64 j] w fun e w' => e = .returned (.bool true) ∧ Below w.heap.size w w' := by
  have hm := hn
  unfold maxLen at hm
  by_cases h1 : ms.length ≤ 65536
  · by_cases h2 : i < 0
    · clear h
      go_enter Try.func4, Try.ntmps4
      go_wp2_with fail
      refine (bytes9 _ _ _ _ _ _ _ hn).mono ?_
      rintro e w' ⟨⟨g, rfl⟩, rfl⟩
      cases g
      all_goals
        go_wp2_with fail
        go_ret
        exact ⟨rfl, Below.refl _ _⟩
    · by_cases h3 : 65536 < i
      · clear h
        go_enter Try.func4, Try.ntmps4
        go_wp2_with fail
        refine (bytes9 _ _ _ _ _ _ _ hn).mono ?_
        rintro e w' ⟨⟨g, rfl⟩, rfl⟩
        cases g
        all_goals
          go_wp2_with fail
          go_ret
          exact ⟨rfl, Below.refl _ _⟩
      · by_cases h4 : j < 0
        · clear h
          go_enter Try.func4, Try.ntmps4
          go_wp2_with fail
          refine (bytes9 _ _ _ _ _ _ _ hn).mono ?_
          rintro e w' ⟨⟨g, rfl⟩, rfl⟩
          cases g
          all_goals
            go_wp2_with fail
            go_ret
            exact ⟨rfl, Below.refl _ _⟩
        · have h5 : 65536 < j := by omega
          clear h
          go_enter Try.func4, Try.ntmps4
          go_wp2_with fail
          refine (bytes9 _ _ _ _ _ _ _ hn).mono ?_
          rintro e w' ⟨⟨g, rfl⟩, rfl⟩
          cases g
          all_goals
            go_wp2_with fail
            go_ret
            exact ⟨rfl, Below.refl _ _⟩
  · clear h
    go_enter Try.func4, Try.ntmps4
    go_wp2_with fail
    refine (bytes9 _ _ _ _ _ _ _ hn).mono ?_
    rintro e w' ⟨⟨g, rfl⟩, rfl⟩
    cases g
    all_goals
      go_wp2_with fail
      go_ret
      exact ⟨rfl, Below.refl _ _⟩

set_option maxRecDepth 100000 in
set_option maxHeartbeats 8000000 in
theorem comm_any (f : Int) (ms : List Int) (ao : Option Addr) (cap : Nat) (i j : Nat) (w : World) (hrow : Row .u64 w ao ms) (hnil : ao = none → ms = []) (hf : Wd f) (hw : WdL ms) (hn : ms.length ≤ 65536) (hi : i ≤ 65536) (hj : j ≤ 65536) :
    Calls Try.prog 4 #[.int .u64 f, .slice ao ms.length cap, .int .i64 i, .int .i64 j] w fun e w' => e = .returned (.bool true) ∧ Below w.heap.size w w' := by
  have HR : Hid (Row .u64 w ao ms ∧ (ao = none → ms = []) ∧ Wd f ∧ WdL ms) := ⟨hrow, hnil, hf, hw⟩
  clear hrow hnil hf hw
  have i1 : (i : Int) ≤ 65536 := by omega
  have j1 : (j : Int) ≤ 65536 := by omega
  go_enter Try.func4, Try.ntmps4
  go_wp2_with fail
  refine (bytes9 _ _ _ _ _ _ _ (by unfold maxLen; omega)).mono ?_
  rintro e w' ⟨⟨g, rfl⟩, rfl⟩
  cases g
  · go_wp2_with fail
    go_ret
    exact ⟨rfl, Below.refl _ _⟩
  go_wp2_with fail
  refine (clone_any ms ao cap _ HR.out.1 HR.out.2.1 (by omega)).mono ?_
  rintro e w1 ⟨v1, rfl, hO1, hb1⟩
  obtain ⟨ao1, c1, hv, hn1, hR1, hg1⟩ := hO1.shape
  subst hv
  have H1 : Hid (Row .u64 w1 ao1 ms ∧ (ao1 = none → ms = []) ∧ Below w.heap.size w w1) := ⟨hR1, hn1, hb1⟩
  clear hO1 hb1 hn1 hR1 hg1
  go_wp2_with fail
  refine (clone_any ms ao1 c1 _ H1.out.1 H1.out.2.1 (by omega)).mono ?_
  rintro e w2 ⟨v2, rfl, hO2, hb2⟩
  obtain ⟨ao2, c2, hv, _⟩ := hO2.shape
  subst hv
  have H2 : Hid (Own w1.heap.size w2 (.slice ao2 ms.length c2) ms ∧ Below w1.heap.size w1 w2) := ⟨hO2, hb2⟩
  clear hO2 hb2
  go_wp2_with fail
  refine (zzAdd_any f ms i w1.heap.size ao2 c2 _ H2.out.1 H2.out.2.size HR.out.2.2.1 HR.out.2.2.2 (by omega) (by omega)).mono ?_
  rintro e w3 ⟨v3, rfl, hO3, hb3⟩
  obtain ⟨mi, HMI⟩ : ∃ mi, Hid (mi = addM ms i) := ⟨_, rfl⟩
  obtain ⟨fi, HFI⟩ : ∃ fi, Hid (fi = addF f i) := ⟨_, rfl⟩
  rw [← HMI.out] at hO3
  rw [← HFI.out]
  have hmil : mi.length ≤ 65536 := by rw [HMI.out, addM_length]; omega
  obtain ⟨ao3, c3, hv, _⟩ := hO3.shape
  subst hv
  have H3 : Hid (Own w1.heap.size w3 (.slice ao3 mi.length c3) mi ∧ Below w1.heap.size w1 w3 ∧ Wd fi ∧ WdL mi) := ⟨hO3, H2.out.2.trans hb3, by rw [HFI.out]; exact addF_wd HR.out.2.2.1 i, by rw [HMI.out]; exact HR.out.2.2.2.add i⟩
  clear hO3 hb3
  go_wp2_with fail
  refine (zzAdd_any fi mi j w1.heap.size ao3 c3 _ H3.out.1 H3.out.2.1.size H3.out.2.2.1 H3.out.2.2.2 (by omega) (by omega)).mono ?_
  rintro e w4 ⟨v4, rfl, hO4, hb4⟩
  obtain ⟨ys, HY0⟩ : ∃ ys, Hid (ys = addM mi j) := ⟨_, rfl⟩
  obtain ⟨F, HF0⟩ : ∃ F, Hid (F = addF fi j) := ⟨_, rfl⟩
  rw [← HY0.out] at hO4
  rw [← HF0.out]
  have hyl : ys.length = max (max ms.length (i / 64)) (j / 64) := by rw [HY0.out, HMI.out, addM_length, addM_length]
  have hyb : ys.length ≤ 65536 := by omega
  obtain ⟨ao4, c4, hv, _, hR4, _⟩ := hO4.shape
  subst hv
  have hb14 : Below w1.heap.size w1 w4 := H3.out.2.1.trans hb4
  have H4 : Hid (Row .u64 w4 ao4 ys ∧ Row .u64 w4 ao1 ms ∧ Below w.heap.size w w4 ∧ Wd F ∧ WdL ys) :=
    ⟨hR4, H1.out.1.kept hb14, H1.out.2.2.trans (hb14.mono H1.out.2.2.size), by rw [HF0.out]; exact addF_wd H3.out.2.2.1 j, by rw [HY0.out]; exact H3.out.2.2.2.add j⟩
  have HF : Hid (F = addF (addF f i) j) := by show F = _; rw [HF0.out, HFI.out]
  have HY : Hid (ys = addM (addM ms i) j) := by show ys = _; rw [HY0.out, HMI.out]
  have HYL : Hid (ys.length = max (max ms.length (i / 64)) (j / 64)) := hyl
  clear hO4 hb4 hR4 hb14 hyl
  go_wp2_with fail
  refine (clone_any ms ao1 c1 _ H4.out.2.1 H1.out.2.1 (by omega)).mono ?_
  rintro e w5 ⟨v5, rfl, hO5, hb5⟩
  obtain ⟨ao5, c5, hv, _⟩ := hO5.shape
  subst hv
  have H5 : Hid (Own w4.heap.size w5 (.slice ao5 ms.length c5) ms ∧ Below w4.heap.size w4 w5) := ⟨hO5, hb5⟩
  clear hO5 hb5
  go_wp2_with fail
  refine (zzAdd_any f ms j w4.heap.size ao5 c5 _ H5.out.1 H5.out.2.size HR.out.2.2.1 HR.out.2.2.2 (by omega) (by omega)).mono ?_
  rintro e w6 ⟨v6, rfl, hO6, hb6⟩
  obtain ⟨mj, HMJ⟩ : ∃ mj, Hid (mj = addM ms j) := ⟨_, rfl⟩
  obtain ⟨fj, HFJ⟩ : ∃ fj, Hid (fj = addF f j) := ⟨_, rfl⟩
  rw [← HMJ.out] at hO6
  rw [← HFJ.out]
  have hmjl : mj.length ≤ 65536 := by rw [HMJ.out, addM_length]; omega
  obtain ⟨ao6, c6, hv, _⟩ := hO6.shape
  subst hv
  have H6 : Hid (Own w4.heap.size w6 (.slice ao6 mj.length c6) mj ∧ Below w4.heap.size w4 w6 ∧ Wd fj ∧ WdL mj) := ⟨hO6, H5.out.2.trans hb6, by rw [HFJ.out]; exact addF_wd HR.out.2.2.1 j, by rw [HMJ.out]; exact HR.out.2.2.2.add j⟩
  clear hO6 hb6
  go_wp2_with fail
  refine (zzAdd_any fj mj i w4.heap.size ao6 c6 _ H6.out.1 H6.out.2.1.size H6.out.2.2.1 H6.out.2.2.2 (by omega) (by omega)).mono ?_
  rintro e w7 ⟨v7, rfl, hO7, hb7⟩
  have ey : addM mj i = ys := by rw [HY.out, HMJ.out]; exact addM_comm ms j i
  have ef : addF fj i = F := by rw [HF.out, HFJ.out]; exact addF_comm f j i
  rw [ey] at hO7
  rw [ef]
  clear ey ef
  obtain ⟨ao7, c7, hv, _, hR7, _⟩ := hO7.shape
  subst hv
  have hb47 : Below w4.heap.size w4 w7 := H6.out.2.1.trans hb7
  have H7 : Hid (Row .u64 w7 ao7 ys ∧ Row .u64 w7 ao4 ys ∧ Row .u64 w7 ao1 ms ∧ Below w.heap.size w w7) := ⟨hR7, H4.out.1.kept hb47, H4.out.2.1.kept hb47, H4.out.2.2.1.trans (hb47.mono H4.out.2.2.1.size)⟩
  clear hO7 hb7 hR7 hb47
  go_wp2_with fail
  refine (eq_true ys ao4 ao7 c4 c7 _ H7.out.2.1 H7.out.1 (by omega)).mono ?_
  rintro e w' ⟨rfl, nq, rfl⟩
  have HQ : Hid (Row .u64 (w7.drewN nq) ao1 ms ∧ Wd f ∧ WdL ms ∧ Row .u64 (w7.drewN nq) ao4 ys ∧ Wd F ∧ WdL ys) := ⟨H7.out.2.2.1.drewN nq, HR.out.2.2.1, HR.out.2.2.2, H7.out.2.1.drewN nq, H4.out.2.2.2.1, H4.out.2.2.2.2⟩
  have HB : Hid (Below w.heap.size w (w7.drewN nq)) := below_drewN H7.out.2.2.2 nq
  generalize w7.drewN nq = wx at HQ HB ⊢
  obtain ⟨a, ha⟩ : ∃ a : Nat, a = i / 64 := ⟨_, rfl⟩
  obtain ⟨b, hb⟩ : ∃ b : Nat, b = j / 64 := ⟨_, rfl⟩
  have hai : (i : Int) / 64 = a := by omega
  have hbj : (j : Int) / 64 = b := by omega
  have hab : (a : Int) ≤ 1024 := by omega
  have hbb : (b : Int) ≤ 1024 := by omega
  have hyl : ys.length = max (max ms.length a) b := by rw [ha, hb]; exact HYL.out
  clear ha hb H1 H2 H3 H4 H5 H6 H7 HY0 HF0 HMI HFI HMJ HFJ HYL HR
  by_cases ca : ms.length < a
  · by_cases cb : a < b
    · have y1 : (ys.length : Int) ≤ b := by omega
      have y2 : (b : Int) ≤ ys.length := by omega
      clear hyl
      have yz : ((ys.length : Int) != (b : Int)) = false := by rw [bne_eq_false_iff_eq]; omega
      go_wp2_with fail
      go_loopg [14] (64 * (b + 1)) (fun g t wr => ∃ k : Nat, Hid (k + g = 64 * (b + 1)) ∧ t = .int .i64 k ∧ wr = wx)
      case atStart => exact ⟨0, Nat.zero_add _, rfl, rfl⟩
      case round =>
        obtain ⟨k, hk, rfl, rfl⟩ := hrel
        by_cases hlt : k < 64 * (b + 1)
        · have HE : has F ys k = (has f ms k || decide (k = i) || decide (k = j)) := by rw [HF.out, HY.out, has_add, has_add]
          have hkb : (k : Int) < 64 * ((b : Int) + 1) := by omega
          have hkb2 : (k : Int) ≤ 10000000 := by have := hk.out; omega
          cases hg : has f ms k
          · by_cases hi : k = i
            · have E1 : ((k : Int) == (i : Int)) = true := by rw [hi]; simp
              have D : Hid (has F ys k = true) := by show has F ys k = true; rw [HE, hi]; simp
              have G : Hid (has f ms k = false) := hg
              clear HE hg hi

              go_wp2_with fail
              refine (has_any f ms ao1 c1 k _ HQ.out.1 HQ.out.2.1 HQ.out.2.2.1 (by omega) (by omega)).mono ?_
              rintro e w' ⟨rfl, rfl⟩
              rw [G.out]
              go_wp2_with fail
              refine (has_any F ys ao4 c4 k _ HQ.out.2.2.2.1 HQ.out.2.2.2.2.1 HQ.out.2.2.2.2.2 (by omega) (by omega)).mono ?_
              rintro e w' ⟨rfl, rfl⟩
              rw [D.out]
              go_wp2_with fail
              go_roundg (gk - 1)
              case measure => have := hk.out; omega
              case rel => exact ⟨k + 1, (by have := hk.out; show k + 1 + (gk - 1) = 64 * (b + 1); omega), by go_num, rfl⟩
            · have E1 : ((k : Int) == (i : Int)) = false := by rw [beq_eq_false_iff_ne]; omega
              by_cases hj : k = j
              · have E2 : ((k : Int) == (j : Int)) = true := by rw [hj]; simp
                have D : Hid (has F ys k = true) := by show has F ys k = true; rw [HE, hj]; simp
                have G : Hid (has f ms k = false) := hg
                clear HE hg hi hj

                go_wp2_with fail
                refine (has_any f ms ao1 c1 k _ HQ.out.1 HQ.out.2.1 HQ.out.2.2.1 (by omega) (by omega)).mono ?_
                rintro e w' ⟨rfl, rfl⟩
                rw [G.out]
                go_wp2_with fail
                refine (has_any F ys ao4 c4 k _ HQ.out.2.2.2.1 HQ.out.2.2.2.2.1 HQ.out.2.2.2.2.2 (by omega) (by omega)).mono ?_
                rintro e w' ⟨rfl, rfl⟩
                rw [D.out]
                go_wp2_with fail
                go_roundg (gk - 1)
                case measure => have := hk.out; omega
                case rel => exact ⟨k + 1, (by have := hk.out; show k + 1 + (gk - 1) = 64 * (b + 1); omega), by go_num, rfl⟩
              · have E2 : ((k : Int) == (j : Int)) = false := by rw [beq_eq_false_iff_ne]; omega
                have D : Hid (has F ys k = false) := by show has F ys k = false; rw [HE, hg]; simp [hi, hj]
                have G : Hid (has f ms k = false) := hg
                clear HE hg hi hj

                go_wp2_with fail
                refine (has_any f ms ao1 c1 k _ HQ.out.1 HQ.out.2.1 HQ.out.2.2.1 (by omega) (by omega)).mono ?_
                rintro e w' ⟨rfl, rfl⟩
                rw [G.out]
                go_wp2_with fail
                refine (has_any F ys ao4 c4 k _ HQ.out.2.2.2.1 HQ.out.2.2.2.2.1 HQ.out.2.2.2.2.2 (by omega) (by omega)).mono ?_
                rintro e w' ⟨rfl, rfl⟩
                rw [D.out]
                go_wp2_with fail
                go_roundg (gk - 1)
                case measure => have := hk.out; omega
                case rel => exact ⟨k + 1, (by have := hk.out; show k + 1 + (gk - 1) = 64 * (b + 1); omega), by go_num, rfl⟩
          · have D : Hid (has F ys k = true) := by show has F ys k = true; rw [HE, hg]; simp
            have G : Hid (has f ms k = true) := hg
            clear HE hg

            go_wp2_with fail
            refine (has_any f ms ao1 c1 k _ HQ.out.1 HQ.out.2.1 HQ.out.2.2.1 (by omega) (by omega)).mono ?_
            rintro e w' ⟨rfl, rfl⟩
            rw [G.out]
            go_wp2_with fail
            refine (has_any F ys ao4 c4 k _ HQ.out.2.2.2.1 HQ.out.2.2.2.2.1 HQ.out.2.2.2.2.2 (by omega) (by omega)).mono ?_
            rintro e w' ⟨rfl, rfl⟩
            rw [D.out]
            go_wp2_with fail
            go_roundg (gk - 1)
            case measure => have := hk.out; omega
            case rel => exact ⟨k + 1, (by have := hk.out; show k + 1 + (gk - 1) = 64 * (b + 1); omega), by go_num, rfl⟩
        · have hkb : ¬ (k : Int) < 64 * ((b : Int) + 1) := by omega
          go_wp2_with fail
          go_ret
          exact ⟨rfl, HB.out⟩

    · have y1 : (ys.length : Int) ≤ a := by omega
      have y2 : (a : Int) ≤ ys.length := by omega
      clear hyl
      have yz : ((ys.length : Int) != (a : Int)) = false := by rw [bne_eq_false_iff_eq]; omega
      go_wp2_with fail
      go_loopg [14] (64 * (a + 1)) (fun g t wr => ∃ k : Nat, Hid (k + g = 64 * (a + 1)) ∧ t = .int .i64 k ∧ wr = wx)
      case atStart => exact ⟨0, Nat.zero_add _, rfl, rfl⟩
      case round =>
        obtain ⟨k, hk, rfl, rfl⟩ := hrel
        by_cases hlt : k < 64 * (a + 1)
        · have HE : has F ys k = (has f ms k || decide (k = i) || decide (k = j)) := by rw [HF.out, HY.out, has_add, has_add]
          have hkb : (k : Int) < 64 * ((a : Int) + 1) := by omega
          have hkb2 : (k : Int) ≤ 10000000 := by have := hk.out; omega
          cases hg : has f ms k
          · by_cases hi : k = i
            · have E1 : ((k : Int) == (i : Int)) = true := by rw [hi]; simp
              have D : Hid (has F ys k = true) := by show has F ys k = true; rw [HE, hi]; simp
              have G : Hid (has f ms k = false) := hg
              clear HE hg hi

              go_wp2_with fail
              refine (has_any f ms ao1 c1 k _ HQ.out.1 HQ.out.2.1 HQ.out.2.2.1 (by omega) (by omega)).mono ?_
              rintro e w' ⟨rfl, rfl⟩
              rw [G.out]
              go_wp2_with fail
              refine (has_any F ys ao4 c4 k _ HQ.out.2.2.2.1 HQ.out.2.2.2.2.1 HQ.out.2.2.2.2.2 (by omega) (by omega)).mono ?_
              rintro e w' ⟨rfl, rfl⟩
              rw [D.out]
              go_wp2_with fail
              go_roundg (gk - 1)
              case measure => have := hk.out; omega
              case rel => exact ⟨k + 1, (by have := hk.out; show k + 1 + (gk - 1) = 64 * (a + 1); omega), by go_num, rfl⟩
            · have E1 : ((k : Int) == (i : Int)) = false := by rw [beq_eq_false_iff_ne]; omega
              by_cases hj : k = j
              · have E2 : ((k : Int) == (j : Int)) = true := by rw [hj]; simp
                have D : Hid (has F ys k = true) := by show has F ys k = true; rw [HE, hj]; simp
                have G : Hid (has f ms k = false) := hg
                clear HE hg hi hj

                go_wp2_with fail
                refine (has_any f ms ao1 c1 k _ HQ.out.1 HQ.out.2.1 HQ.out.2.2.1 (by omega) (by omega)).mono ?_
                rintro e w' ⟨rfl, rfl⟩
                rw [G.out]
                go_wp2_with fail
                refine (has_any F ys ao4 c4 k _ HQ.out.2.2.2.1 HQ.out.2.2.2.2.1 HQ.out.2.2.2.2.2 (by omega) (by omega)).mono ?_
                rintro e w' ⟨rfl, rfl⟩
                rw [D.out]
                go_wp2_with fail
                go_roundg (gk - 1)
                case measure => have := hk.out; omega
                case rel => exact ⟨k + 1, (by have := hk.out; show k + 1 + (gk - 1) = 64 * (a + 1); omega), by go_num, rfl⟩
              · have E2 : ((k : Int) == (j : Int)) = false := by rw [beq_eq_false_iff_ne]; omega
                have D : Hid (has F ys k = false) := by show has F ys k = false; rw [HE, hg]; simp [hi, hj]
                have G : Hid (has f ms k = false) := hg
                clear HE hg hi hj

                go_wp2_with fail
                refine (has_any f ms ao1 c1 k _ HQ.out.1 HQ.out.2.1 HQ.out.2.2.1 (by omega) (by omega)).mono ?_
                rintro e w' ⟨rfl, rfl⟩
                rw [G.out]
                go_wp2_with fail
                refine (has_any F ys ao4 c4 k _ HQ.out.2.2.2.1 HQ.out.2.2.2.2.1 HQ.out.2.2.2.2.2 (by omega) (by omega)).mono ?_
                rintro e w' ⟨rfl, rfl⟩
                rw [D.out]
                go_wp2_with fail
                go_roundg (gk - 1)
                case measure => have := hk.out; omega
                case rel => exact ⟨k + 1, (by have := hk.out; show k + 1 + (gk - 1) = 64 * (a + 1); omega), by go_num, rfl⟩
          · have D : Hid (has F ys k = true) := by show has F ys k = true; rw [HE, hg]; simp
            have G : Hid (has f ms k = true) := hg
            clear HE hg

            go_wp2_with fail
            refine (has_any f ms ao1 c1 k _ HQ.out.1 HQ.out.2.1 HQ.out.2.2.1 (by omega) (by omega)).mono ?_
            rintro e w' ⟨rfl, rfl⟩
            rw [G.out]
            go_wp2_with fail
            refine (has_any F ys ao4 c4 k _ HQ.out.2.2.2.1 HQ.out.2.2.2.2.1 HQ.out.2.2.2.2.2 (by omega) (by omega)).mono ?_
            rintro e w' ⟨rfl, rfl⟩
            rw [D.out]
            go_wp2_with fail
            go_roundg (gk - 1)
            case measure => have := hk.out; omega
            case rel => exact ⟨k + 1, (by have := hk.out; show k + 1 + (gk - 1) = 64 * (a + 1); omega), by go_num, rfl⟩
        · have hkb : ¬ (k : Int) < 64 * ((a : Int) + 1) := by omega
          go_wp2_with fail
          go_ret
          exact ⟨rfl, HB.out⟩

  · by_cases cb : ms.length < b
    · have y1 : (ys.length : Int) ≤ b := by omega
      have y2 : (b : Int) ≤ ys.length := by omega
      clear hyl
      have yz : ((ys.length : Int) != (b : Int)) = false := by rw [bne_eq_false_iff_eq]; omega
      go_wp2_with fail
      go_loopg [14] (64 * (b + 1)) (fun g t wr => ∃ k : Nat, Hid (k + g = 64 * (b + 1)) ∧ t = .int .i64 k ∧ wr = wx)
      case atStart => exact ⟨0, Nat.zero_add _, rfl, rfl⟩
      case round =>
        obtain ⟨k, hk, rfl, rfl⟩ := hrel
        by_cases hlt : k < 64 * (b + 1)
        · have HE : has F ys k = (has f ms k || decide (k = i) || decide (k = j)) := by rw [HF.out, HY.out, has_add, has_add]
          have hkb : (k : Int) < 64 * ((b : Int) + 1) := by omega
          have hkb2 : (k : Int) ≤ 10000000 := by have := hk.out; omega
          cases hg : has f ms k
          · by_cases hi : k = i
            · have E1 : ((k : Int) == (i : Int)) = true := by rw [hi]; simp
              have D : Hid (has F ys k = true) := by show has F ys k = true; rw [HE, hi]; simp
              have G : Hid (has f ms k = false) := hg
              clear HE hg hi

              go_wp2_with fail
              refine (has_any f ms ao1 c1 k _ HQ.out.1 HQ.out.2.1 HQ.out.2.2.1 (by omega) (by omega)).mono ?_
              rintro e w' ⟨rfl, rfl⟩
              rw [G.out]
              go_wp2_with fail
              refine (has_any F ys ao4 c4 k _ HQ.out.2.2.2.1 HQ.out.2.2.2.2.1 HQ.out.2.2.2.2.2 (by omega) (by omega)).mono ?_
              rintro e w' ⟨rfl, rfl⟩
              rw [D.out]
              go_wp2_with fail
              go_roundg (gk - 1)
              case measure => have := hk.out; omega
              case rel => exact ⟨k + 1, (by have := hk.out; show k + 1 + (gk - 1) = 64 * (b + 1); omega), by go_num, rfl⟩
            · have E1 : ((k : Int) == (i : Int)) = false := by rw [beq_eq_false_iff_ne]; omega
              by_cases hj : k = j
              · have E2 : ((k : Int) == (j : Int)) = true := by rw [hj]; simp
                have D : Hid (has F ys k = true) := by show has F ys k = true; rw [HE, hj]; simp
                have G : Hid (has f ms k = false) := hg
                clear HE hg hi hj

                go_wp2_with fail
                refine (has_any f ms ao1 c1 k _ HQ.out.1 HQ.out.2.1 HQ.out.2.2.1 (by omega) (by omega)).mono ?_
                rintro e w' ⟨rfl, rfl⟩
                rw [G.out]
                go_wp2_with fail
                refine (has_any F ys ao4 c4 k _ HQ.out.2.2.2.1 HQ.out.2.2.2.2.1 HQ.out.2.2.2.2.2 (by omega) (by omega)).mono ?_
                rintro e w' ⟨rfl, rfl⟩
                rw [D.out]
                go_wp2_with fail
                go_roundg (gk - 1)
                case measure => have := hk.out; omega
                case rel => exact ⟨k + 1, (by have := hk.out; show k + 1 + (gk - 1) = 64 * (b + 1); omega), by go_num, rfl⟩
              · have E2 : ((k : Int) == (j : Int)) = false := by rw [beq_eq_false_iff_ne]; omega
                have D : Hid (has F ys k = false) := by show has F ys k = false; rw [HE, hg]; simp [hi, hj]
                have G : Hid (has f ms k = false) := hg
                clear HE hg hi hj

                go_wp2_with fail
                refine (has_any f ms ao1 c1 k _ HQ.out.1 HQ.out.2.1 HQ.out.2.2.1 (by omega) (by omega)).mono ?_
                rintro e w' ⟨rfl, rfl⟩
                rw [G.out]
                go_wp2_with fail
                refine (has_any F ys ao4 c4 k _ HQ.out.2.2.2.1 HQ.out.2.2.2.2.1 HQ.out.2.2.2.2.2 (by omega) (by omega)).mono ?_
                rintro e w' ⟨rfl, rfl⟩
                rw [D.out]
                go_wp2_with fail
                go_roundg (gk - 1)
                case measure => have := hk.out; omega
                case rel => exact ⟨k + 1, (by have := hk.out; show k + 1 + (gk - 1) = 64 * (b + 1); omega), by go_num, rfl⟩
          · have D : Hid (has F ys k = true) := by show has F ys k = true; rw [HE, hg]; simp
            have G : Hid (has f ms k = true) := hg
            clear HE hg

            go_wp2_with fail
            refine (has_any f ms ao1 c1 k _ HQ.out.1 HQ.out.2.1 HQ.out.2.2.1 (by omega) (by omega)).mono ?_
            rintro e w' ⟨rfl, rfl⟩
            rw [G.out]
            go_wp2_with fail
            refine (has_any F ys ao4 c4 k _ HQ.out.2.2.2.1 HQ.out.2.2.2.2.1 HQ.out.2.2.2.2.2 (by omega) (by omega)).mono ?_
            rintro e w' ⟨rfl, rfl⟩
            rw [D.out]
            go_wp2_with fail
            go_roundg (gk - 1)
            case measure => have := hk.out; omega
            case rel => exact ⟨k + 1, (by have := hk.out; show k + 1 + (gk - 1) = 64 * (b + 1); omega), by go_num, rfl⟩
        · have hkb : ¬ (k : Int) < 64 * ((b : Int) + 1) := by omega
          go_wp2_with fail
          go_ret
          exact ⟨rfl, HB.out⟩

    · have y1 : (ys.length : Int) ≤ ms.length := by omega
      have y2 : (ms.length : Int) ≤ ys.length := by omega
      clear hyl
      have yz : ((ys.length : Int) != (ms.length : Int)) = false := by rw [bne_eq_false_iff_eq]; omega
      go_wp2_with fail
      go_loopg [14] (64 * (ms.length + 1)) (fun g t wr => ∃ k : Nat, Hid (k + g = 64 * (ms.length + 1)) ∧ t = .int .i64 k ∧ wr = wx)
      case atStart => exact ⟨0, Nat.zero_add _, rfl, rfl⟩
      case round =>
        obtain ⟨k, hk, rfl, rfl⟩ := hrel
        by_cases hlt : k < 64 * (ms.length + 1)
        · have HE : has F ys k = (has f ms k || decide (k = i) || decide (k = j)) := by rw [HF.out, HY.out, has_add, has_add]
          have hkb : (k : Int) < 64 * ((ms.length : Int) + 1) := by omega
          have hkb2 : (k : Int) ≤ 10000000 := by have := hk.out; omega
          cases hg : has f ms k
          · by_cases hi : k = i
            · have E1 : ((k : Int) == (i : Int)) = true := by rw [hi]; simp
              have D : Hid (has F ys k = true) := by show has F ys k = true; rw [HE, hi]; simp
              have G : Hid (has f ms k = false) := hg
              clear HE hg hi

              go_wp2_with fail
              refine (has_any f ms ao1 c1 k _ HQ.out.1 HQ.out.2.1 HQ.out.2.2.1 (by omega) (by omega)).mono ?_
              rintro e w' ⟨rfl, rfl⟩
              rw [G.out]
              go_wp2_with fail
              refine (has_any F ys ao4 c4 k _ HQ.out.2.2.2.1 HQ.out.2.2.2.2.1 HQ.out.2.2.2.2.2 (by omega) (by omega)).mono ?_
              rintro e w' ⟨rfl, rfl⟩
              rw [D.out]
              go_wp2_with fail
              go_roundg (gk - 1)
              case measure => have := hk.out; omega
              case rel => exact ⟨k + 1, (by have := hk.out; show k + 1 + (gk - 1) = 64 * (ms.length + 1); omega), by go_num, rfl⟩
            · have E1 : ((k : Int) == (i : Int)) = false := by rw [beq_eq_false_iff_ne]; omega
              by_cases hj : k = j
              · have E2 : ((k : Int) == (j : Int)) = true := by rw [hj]; simp
                have D : Hid (has F ys k = true) := by show has F ys k = true; rw [HE, hj]; simp
                have G : Hid (has f ms k = false) := hg
                clear HE hg hi hj

                go_wp2_with fail
                refine (has_any f ms ao1 c1 k _ HQ.out.1 HQ.out.2.1 HQ.out.2.2.1 (by omega) (by omega)).mono ?_
                rintro e w' ⟨rfl, rfl⟩
                rw [G.out]
                go_wp2_with fail
                refine (has_any F ys ao4 c4 k _ HQ.out.2.2.2.1 HQ.out.2.2.2.2.1 HQ.out.2.2.2.2.2 (by omega) (by omega)).mono ?_
                rintro e w' ⟨rfl, rfl⟩
                rw [D.out]
                go_wp2_with fail
                go_roundg (gk - 1)
                case measure => have := hk.out; omega
                case rel => exact ⟨k + 1, (by have := hk.out; show k + 1 + (gk - 1) = 64 * (ms.length + 1); omega), by go_num, rfl⟩
              · have E2 : ((k : Int) == (j : Int)) = false := by rw [beq_eq_false_iff_ne]; omega
                have D : Hid (has F ys k = false) := by show has F ys k = false; rw [HE, hg]; simp [hi, hj]
                have G : Hid (has f ms k = false) := hg
                clear HE hg hi hj

                go_wp2_with fail
                refine (has_any f ms ao1 c1 k _ HQ.out.1 HQ.out.2.1 HQ.out.2.2.1 (by omega) (by omega)).mono ?_
                rintro e w' ⟨rfl, rfl⟩
                rw [G.out]
                go_wp2_with fail
                refine (has_any F ys ao4 c4 k _ HQ.out.2.2.2.1 HQ.out.2.2.2.2.1 HQ.out.2.2.2.2.2 (by omega) (by omega)).mono ?_
                rintro e w' ⟨rfl, rfl⟩
                rw [D.out]
                go_wp2_with fail
                go_roundg (gk - 1)
                case measure => have := hk.out; omega
                case rel => exact ⟨k + 1, (by have := hk.out; show k + 1 + (gk - 1) = 64 * (ms.length + 1); omega), by go_num, rfl⟩
          · have D : Hid (has F ys k = true) := by show has F ys k = true; rw [HE, hg]; simp
            have G : Hid (has f ms k = true) := hg
            clear HE hg

            go_wp2_with fail
            refine (has_any f ms ao1 c1 k _ HQ.out.1 HQ.out.2.1 HQ.out.2.2.1 (by omega) (by omega)).mono ?_
            rintro e w' ⟨rfl, rfl⟩
            rw [G.out]
            go_wp2_with fail
            refine (has_any F ys ao4 c4 k _ HQ.out.2.2.2.1 HQ.out.2.2.2.2.1 HQ.out.2.2.2.2.2 (by omega) (by omega)).mono ?_
            rintro e w' ⟨rfl, rfl⟩
            rw [D.out]
            go_wp2_with fail
            go_roundg (gk - 1)
            case measure => have := hk.out; omega
            case rel => exact ⟨k + 1, (by have := hk.out; show k + 1 + (gk - 1) = 64 * (ms.length + 1); omega), by go_num, rfl⟩
        · have hkb : ¬ (k : Int) < 64 * ((ms.length : Int) + 1) := by omega
          go_wp2_with fail
          go_ret
          exact ⟨rfl, HB.out⟩


end Go.Proofs.Qxb6621677a
