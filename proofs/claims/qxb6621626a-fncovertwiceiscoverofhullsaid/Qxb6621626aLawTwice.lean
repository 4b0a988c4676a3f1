/-
  THE WALK of FnCoverTwiceIsCoverOfHull, out of the contracts.
-/
import Derived.Test.Qxb6621626aZZ
import Derived.Test.Qxb6621626aReads2
namespace Go.Proofs.Qxb6621626a
open Go.RowKit

set_option maxHeartbeats 2000000 in
theorem twice_long (xs : List Int) (ao : Option Addr) (cap : Nat) (low f1 t1 f2 t2 : Int) (w : World) (hn : xs.length ≤ maxLen) (hl : ¬ xs.length ≤ 65536) :
    Calls Try.prog 4 #[.slice ao xs.length cap, .int .i64 low, .int .i64 f1, .int .i64 t1, .int .i64 f2, .int .i64 t2] w fun e w' => e = .returned (.bool true) ∧ Below w.heap.size w w' := by
  have hm := hn
  unfold maxLen at hm
  go_enter Try.func4, Try.ntmps4
  go_wp2_with fail
  refine (bytes16 _ _ _ _ _ _ _ _ _ hn).mono ?_
  rintro e w' ⟨⟨g, rfl⟩, rfl⟩
  cases g
  all_goals
    go_wp2_with fail
    go_ret
    exact ⟨rfl, Below.refl _ _⟩

set_option maxHeartbeats 2000000 in
theorem twice_nil (ao : Option Addr) (cap : Nat) (low f1 t1 f2 t2 : Int) (w : World) :
    Calls Try.prog 4 #[.slice ao 0 cap, .int .i64 low, .int .i64 f1, .int .i64 t1, .int .i64 f2, .int .i64 t2] w fun e w' => e = .returned (.bool true) ∧ Below w.heap.size w w' := by
  go_enter Try.func4, Try.ntmps4
  go_wp2_with fail
  refine (bytes16 _ _ _ _ _ _ _ _ _ (by unfold maxLen; omega)).mono ?_
  rintro e w' ⟨⟨g, rfl⟩, rfl⟩
  cases g
  · go_wp2_with fail
    go_ret
    exact ⟨rfl, Below.refl _ _⟩
  go_wp2_with fail
  refine (out_any low _).mono ?_
  rintro e w' ⟨⟨g, rfl, ho⟩, rfl⟩
  clear ho
  cases g
  case true =>
    go_wp2_with fail
    go_ret
    exact ⟨rfl, Below.refl _ _⟩
  go_wp2_with fail
  refine (out_any f1 _).mono ?_
  rintro e w' ⟨⟨g, rfl, ho⟩, rfl⟩
  clear ho
  cases g
  case true =>
    go_wp2_with fail
    go_ret
    exact ⟨rfl, Below.refl _ _⟩
  go_wp2_with fail
  refine (out_any t1 _).mono ?_
  rintro e w' ⟨⟨g, rfl, ho⟩, rfl⟩
  clear ho
  cases g
  case true =>
    go_wp2_with fail
    go_ret
    exact ⟨rfl, Below.refl _ _⟩
  go_wp2_with fail
  refine (out_any f2 _).mono ?_
  rintro e w' ⟨⟨g, rfl, ho⟩, rfl⟩
  clear ho
  cases g
  case true =>
    go_wp2_with fail
    go_ret
    exact ⟨rfl, Below.refl _ _⟩
  go_wp2_with fail
  refine (out_any t2 _).mono ?_
  rintro e w' ⟨⟨g, rfl, ho⟩, rfl⟩
  clear ho
  cases g
  case true =>
    go_wp2_with fail
    go_ret
    exact ⟨rfl, Below.refl _ _⟩
  go_wp2_with fail
  go_ret
  exact ⟨rfl, Below.refl _ _⟩

set_option maxHeartbeats 4000000 in
theorem twice_any (xs : List Int) (ao : Option Addr) (cap : Nat) (low f1 t1 f2 t2 : Int) (w : World) (hrow : Row .i64 w ao xs) (hnil : ao = none → xs = []) (hn : xs.length ≤ 65536) (hxp : 0 < xs.length) :
    Calls Try.prog 4 #[.slice ao xs.length cap, .int .i64 low, .int .i64 f1, .int .i64 t1, .int .i64 f2, .int .i64 t2] w fun e w' => e = .returned (.bool true) ∧ Below w.heap.size w w' := by
  have HR : Hid (Row .i64 w ao xs ∧ (ao = none → xs = [])) := ⟨hrow, hnil⟩
  clear hrow hnil
  have hx0 : ((xs.length : Int) == 0) = false := by rw [beq_eq_false_iff_ne]; omega
  go_enter Try.func4, Try.ntmps4
  go_wp2_with fail
  refine (bytes16 _ _ _ _ _ _ _ _ _ (by unfold maxLen; omega)).mono ?_
  rintro e w' ⟨⟨g, rfl⟩, rfl⟩
  cases g
  · go_wp2_with fail
    go_ret
    exact ⟨rfl, Below.refl _ _⟩
  go_wp2_with fail
  refine (out_any low _).mono ?_
  rintro e w' ⟨⟨g, rfl, ho⟩, rfl⟩
  cases g
  case true =>
    clear ho
    go_wp2_with fail
    go_ret
    exact ⟨rfl, Below.refl _ _⟩
  have hlo := ho rfl
  clear ho
  go_wp2_with fail
  refine (out_any f1 _).mono ?_
  rintro e w' ⟨⟨g, rfl, ho⟩, rfl⟩
  cases g
  case true =>
    clear ho
    go_wp2_with fail
    go_ret
    exact ⟨rfl, Below.refl _ _⟩
  have hf1 := ho rfl
  clear ho
  go_wp2_with fail
  refine (out_any t1 _).mono ?_
  rintro e w' ⟨⟨g, rfl, ho⟩, rfl⟩
  cases g
  case true =>
    clear ho
    go_wp2_with fail
    go_ret
    exact ⟨rfl, Below.refl _ _⟩
  have ht1 := ho rfl
  clear ho
  go_wp2_with fail
  refine (out_any f2 _).mono ?_
  rintro e w' ⟨⟨g, rfl, ho⟩, rfl⟩
  cases g
  case true =>
    clear ho
    go_wp2_with fail
    go_ret
    exact ⟨rfl, Below.refl _ _⟩
  have hf2 := ho rfl
  clear ho
  go_wp2_with fail
  refine (out_any t2 _).mono ?_
  rintro e w' ⟨⟨g, rfl, ho⟩, rfl⟩
  cases g
  case true =>
    clear ho
    go_wp2_with fail
    go_ret
    exact ⟨rfl, Below.refl _ _⟩
  have ht2 := ho rfl
  clear ho
  go_wp2_with fail
  refine (carried_any xs ao cap _ HR.out.1 (by omega)).mono ?_
  rintro e w' ⟨⟨g, rfl, hca0⟩, rfl⟩
  cases g
  case false =>
    clear hca0
    go_wp2_with fail
    go_ret
    exact ⟨rfl, Below.refl _ _⟩
  have HCA : Hid (Carried xs) := hca0.1 rfl
  clear hca0
  have hx : xs ≠ [] := by rintro rfl; simp at hxp
  -- the plain law, laid aside
  obtain ⟨mf, HMF⟩ : ∃ mf : Int, Hid (mf = min f1 f2) := ⟨_, rfl⟩
  obtain ⟨mt, HMT⟩ : ∃ mt : Int, Hid (mt = max t1 t2) := ⟨_, rfl⟩
  have mf1 : -65536 ≤ mf := by have := HMF.out; omega
  have mf2 : mf ≤ 65536 := by have := HMF.out; omega
  have mt1 : -65536 ≤ mt := by have := HMT.out; omega
  have mt2 : mt ≤ 65536 := by have := HMT.out; omega
  have HT := cov_twice xs low f1 t1 f2 t2 hx
  rw [← HMF.out, ← HMT.out] at HT
  obtain ⟨ys, HY⟩ : ∃ ys, Hid (ys = covDig xs low mf mt) := ⟨_, rfl⟩
  obtain ⟨lw, HW⟩ : ∃ lw, Hid (lw = covLow xs low mf) := ⟨_, rfl⟩
  obtain ⟨ya, HYA⟩ : ∃ ya, Hid (ya = covDig xs low f1 t1) := ⟨_, rfl⟩
  obtain ⟨la, HLA⟩ : ∃ la, Hid (la = covLow xs low f1) := ⟨_, rfl⟩
  rw [← HYA.out, ← HLA.out, ← HY.out, ← HW.out] at HT
  have hyl := covDig_length xs low mf mt hx
  rw [← HY.out, ← HW.out] at hyl
  have hal := covDig_length xs low f1 t1 hx
  rw [← HYA.out, ← HLA.out] at hal
  have hlw : lw = min low mf := by rw [HW.out, covLow, if_neg hx]
  have hla : la = min low f1 := by rw [HLA.out, covLow, if_neg hx]
  obtain ⟨M, HM⟩ : ∃ M : Int, Hid (M = max (low + xs.length) (mt + 1)) := ⟨_, rfl⟩
  have m1 : M ≤ 1000000 := by have := HM.out; omega
  have m2 : -1000000 ≤ M := by have := HM.out; omega
  have y1 : (ys.length : Int) ≤ M - lw := by have := HM.out; omega
  have y2 : M - lw ≤ (ys.length : Int) := by have := HM.out; omega
  have a1 : (ya.length : Int) ≤ 300000 := by omega
  have la1 : -65536 ≤ la := by omega
  have la2 : la ≤ 65536 := by omega
  have hcov : lw ≤ low ∧ low + xs.length ≤ lw + ys.length := by have := HM.out; omega
  have l1 : -65536 ≤ lw := by omega
  have l2 : lw ≤ 65536 := by omega
  have HP : Hid (covLow ya la f2 = lw ∧ covDig ya la f2 t2 = ys ∧ lw = min low mf ∧ Carried ya ∧ Carried ys ∧ Same xs low ys lw) :=
    ⟨HT.1, HT.2, hlw, by rw [HYA.out]; exact HCA.out.cov low f1 t1, by rw [HY.out]; exact HCA.out.cov low mf mt, by rw [HY.out, HW.out]; exact Same.cov xs low mf mt⟩
  clear HT hyl hal hlw hla hx
  go_wp2_with fail
  refine (clone_any xs ao cap _ HR.out.1 HR.out.2 (by omega)).mono ?_
  rintro e w1 ⟨v1, rfl, hO1, hb1⟩
  obtain ⟨ao1, c1, hv, hn1, hR1, hg1⟩ := hO1.shape
  subst hv
  have H1 : Hid (Row .i64 w1 ao1 xs ∧ (ao1 = none → xs = []) ∧ Below w.heap.size w w1) := ⟨hR1, hn1, hb1⟩
  clear hO1 hb1 hn1 hR1 hg1
  go_wp2_with fail
  refine (clone_any xs ao1 c1 _ H1.out.1 H1.out.2.1 (by omega)).mono ?_
  rintro e w2 ⟨v2, rfl, hO2, hb2⟩
  obtain ⟨ao2, c2, hv, _⟩ := hO2.shape
  subst hv
  have H2 : Hid (Own w1.heap.size w2 (.slice ao2 xs.length c2) xs ∧ Below w1.heap.size w1 w2) := ⟨hO2, hb2⟩
  clear hO2 hb2
  go_wp2_with fail
  refine (zzCover_any xs low f1 t1 w1.heap.size ao2 c2 _ H2.out.1 H2.out.2.size HCA.out (by omega) (by omega) (by omega) (by omega) (by omega) (by omega) (by omega)).mono ?_
  rintro e w3 ⟨v3, rfl, hO3, hb3⟩
  rw [← HYA.out] at hO3
  rw [← HLA.out]
  obtain ⟨ao3, c3, hv, _⟩ := hO3.shape
  subst hv
  have H3 : Hid (Own w1.heap.size w3 (.slice ao3 ya.length c3) ya ∧ Below w1.heap.size w1 w3) := ⟨hO3, H2.out.2.trans hb3⟩
  clear hO3 hb3
  go_wp2_with fail
  refine (zzCover_any ya la f2 t2 w1.heap.size ao3 c3 _ H3.out.1 H3.out.2.size HP.out.2.2.2.1 (by omega) (by omega) (by omega) (by omega) (by omega) (by omega) (by omega)).mono ?_
  rintro e w4 ⟨v4, rfl, hO4, hb4⟩
  rw [HP.out.2.1] at hO4
  rw [HP.out.1]
  obtain ⟨ao4, c4, hv, _, hR4, _⟩ := hO4.shape
  subst hv
  have hb14 : Below w1.heap.size w1 w4 := H3.out.2.trans hb4
  have H4 : Hid (Row .i64 w4 ao4 ys ∧ Row .i64 w4 ao1 xs ∧ Below w.heap.size w w4) := ⟨hR4, H1.out.1.kept hb14, H1.out.2.2.trans (hb14.mono H1.out.2.2.size)⟩
  clear hO4 hb4 hR4 hb14
  go_wp2_with fail
  refine (clone_any xs ao1 c1 _ H4.out.2.1 H1.out.2.1 (by omega)).mono ?_
  rintro e w5 ⟨v5, rfl, hO5, hb5⟩
  obtain ⟨ao5, c5, hv, _⟩ := hO5.shape
  subst hv
  have H5 : Hid (Own w4.heap.size w5 (.slice ao5 xs.length c5) xs ∧ Below w4.heap.size w4 w5) := ⟨hO5, hb5⟩
  clear hO5 hb5
  go_wp2_with fail
  refine (min_any f1 f2 _).mono ?_
  rintro e w' ⟨rfl, rfl⟩
  rw [← HMF.out]
  go_wp2_with fail
  refine (max_any t1 t2 _).mono ?_
  rintro e w' ⟨rfl, rfl⟩
  rw [← HMT.out]
  go_wp2_with fail
  refine (zzCover_any xs low mf mt w4.heap.size ao5 c5 _ H5.out.1 H5.out.2.size HCA.out (by omega) (by omega) (by omega) (by omega) (by omega) (by omega) (by omega)).mono ?_
  rintro e w6 ⟨v6, rfl, hO6, hb6⟩
  rw [← HY.out] at hO6
  rw [← HW.out]
  obtain ⟨ao6, c6, hv, _, hR6, _⟩ := hO6.shape
  subst hv
  have hb46 : Below w4.heap.size w4 w6 := H5.out.2.trans hb6
  have H6 : Hid (Row .i64 w6 ao6 ys ∧ Row .i64 w6 ao4 ys ∧ Row .i64 w6 ao1 xs ∧ Below w.heap.size w w6) := ⟨hR6, H4.out.1.kept hb46, H4.out.2.1.kept hb46, H4.out.2.2.trans (hb46.mono H4.out.2.2.size)⟩
  clear hO6 hb6 hR6 hb46
  go_wp2_with fail
  refine (min_any f1 f2 _).mono ?_
  rintro e w' ⟨rfl, rfl⟩
  rw [← HMF.out]
  go_wp2_with fail
  refine (min_any low mf _).mono ?_
  rintro e w' ⟨rfl, rfl⟩
  rw [← HP.out.2.2.1]
  go_wp2_with fail
  refine (max_any t1 t2 _).mono ?_
  rintro e w' ⟨rfl, rfl⟩
  rw [← HMT.out]
  go_wp2_with fail
  refine (max_any _ _ _).mono ?_
  rintro e w' ⟨rfl, rfl⟩
  rw [← HM.out]
  go_wp2_with fail
  refine (eq_true ys ao4 ao6 c4 c6 _ H6.out.2.1 H6.out.1 (by omega)).mono ?_
  rintro e w' ⟨rfl, nq, rfl⟩
  go_wp2_with fail
  refine (carried_any ys ao6 c6 _ (H6.out.1.drewN nq) (by omega)).mono ?_
  rintro e w' ⟨⟨g, rfl, hg⟩, rfl⟩
  obtain rfl := hg.2 HP.out.2.2.2.2.1
  clear hg
  go_wp2_with fail
  refine (same_true xs ys ao1 ao6 c1 c6 low lw _ (H6.out.2.2.1.drewN nq) (H6.out.1.drewN nq) HCA.out HP.out.2.2.2.2.1 HP.out.2.2.2.2.2 (by omega) (by omega) (by omega) (by omega) (by omega) (by omega) (.inr hcov)).mono ?_
  rintro e w' ⟨rfl, rfl⟩
  go_wp2_with fail
  go_ret
  exact ⟨rfl, below_drewN H6.out.2.2.2 _⟩

end Go.Proofs.Qxb6621626a
