/-
  THE WALK of FnCoverKeepsValueOverHull, out of the contracts.
-/
import Derived.Test.Qxb6621626aZZ
import Derived.Test.Qxb6621626aReads2
namespace Go.Proofs.Qxb6621626a
open Go.RowKit

set_option maxHeartbeats 2000000 in
theorem keeps_long (xs : List Int) (ao : Option Addr) (cap : Nat) (low f t : Int) (w : World) (hn : xs.length ≤ maxLen) (hl : ¬ xs.length ≤ 65536) :
    Calls Try.prog 3 #[.slice ao xs.length cap, .int .i64 low, .int .i64 f, .int .i64 t] w fun e w' => e = .returned (.bool true) ∧ Below w.heap.size w w' := by
  have hm := hn
  unfold maxLen at hm
  go_enter Try.func3, Try.ntmps3
  go_wp2_with fail
  refine (bytes8 _ _ _ _ _ _ _ hn).mono ?_
  rintro e w' ⟨⟨g, rfl⟩, rfl⟩
  cases g
  all_goals
    go_wp2_with fail
    go_ret
    exact ⟨rfl, Below.refl _ _⟩

set_option maxHeartbeats 4000000 in
theorem keeps_any (xs : List Int) (ao : Option Addr) (cap : Nat) (low f t : Int) (w : World) (hrow : Row .i64 w ao xs) (hnil : ao = none → xs = []) (hn : xs.length ≤ 65536) :
    Calls Try.prog 3 #[.slice ao xs.length cap, .int .i64 low, .int .i64 f, .int .i64 t] w fun e w' => e = .returned (.bool true) ∧ Below w.heap.size w w' := by
  have HR : Hid (Row .i64 w ao xs ∧ (ao = none → xs = [])) := ⟨hrow, hnil⟩
  clear hrow hnil
  go_enter Try.func3, Try.ntmps3
  go_wp2_with fail
  refine (bytes8 _ _ _ _ _ _ _ (by unfold maxLen; omega)).mono ?_
  rintro e w' ⟨⟨g, rfl⟩, rfl⟩
  cases g
  · go_wp2_with fail
    go_ret
    exact ⟨rfl, Below.refl _ _⟩
  go_wp2_with fail
  refine (out_any low _).mono ?_
  rintro e w' ⟨⟨g, rfl, ho1⟩, rfl⟩
  cases g
  case true =>
    clear ho1
    go_wp2_with fail
    go_ret
    exact ⟨rfl, Below.refl _ _⟩
  have hlo := ho1 rfl
  clear ho1
  go_wp2_with fail
  refine (out_any f _).mono ?_
  rintro e w' ⟨⟨g, rfl, ho2⟩, rfl⟩
  cases g
  case true =>
    clear ho2
    go_wp2_with fail
    go_ret
    exact ⟨rfl, Below.refl _ _⟩
  have hfo := ho2 rfl
  clear ho2
  go_wp2_with fail
  refine (out_any t _).mono ?_
  rintro e w' ⟨⟨g, rfl, ho3⟩, rfl⟩
  cases g
  case true =>
    clear ho3
    go_wp2_with fail
    go_ret
    exact ⟨rfl, Below.refl _ _⟩
  have hto := ho3 rfl
  clear ho3
  go_wp2_with fail
  refine (carried_any xs ao cap _ HR.out.1 (by omega)).mono ?_
  rintro e w' ⟨⟨g, rfl, hca0⟩, rfl⟩
  cases g
  case false =>
    clear hca0
    go_wp2_with fail
    go_ret
    exact ⟨rfl, Below.refl _ _⟩
  have HCA : Hid (Carried xs) := hca0.1 rfl
  clear hca0
  go_wp2_with fail
  refine (clone_any xs ao cap _ HR.out.1 HR.out.2 (by omega)).mono ?_
  rintro e w1 ⟨v1, rfl, hO1, hb1⟩
  obtain ⟨ao1, c1, hv, hn1, hR1, hg1⟩ := hO1.shape
  subst hv
  have H1 : Hid (Row .i64 w1 ao1 xs ∧ (ao1 = none → xs = []) ∧ Below w.heap.size w w1) := ⟨hR1, hn1, hb1⟩
  clear hO1 hb1 hn1 hR1 hg1
  go_wp2_with fail
  refine (clone_any xs ao1 c1 _ H1.out.1 H1.out.2.1 (by omega)).mono ?_
  rintro e w2 ⟨v2, rfl, hO2, hb2⟩
  obtain ⟨ao2, c2, hv, _⟩ := hO2.shape
  subst hv
  have H2 : Hid (Own w1.heap.size w2 (.slice ao2 xs.length c2) xs ∧ Below w1.heap.size w1 w2) := ⟨hO2, hb2⟩
  clear hO2 hb2
  go_wp2_with fail
  refine (zzCover_any xs low f t w1.heap.size ao2 c2 _ H2.out.1 H2.out.2.size HCA.out (by omega) (by omega) (by omega) (by omega) (by omega) (by omega) (by omega)).mono ?_
  rintro e w3 ⟨v3, rfl, hO3, hb3⟩
  obtain ⟨ao3, c3, hv, _, hR3, _⟩ := hO3.shape
  subst hv
  have hb13 : Below w1.heap.size w1 w3 := H2.out.2.trans hb3
  obtain ⟨ys, HY⟩ : ∃ ys, Hid (ys = covDig xs low f t) := ⟨_, rfl⟩
  obtain ⟨lw, HW⟩ : ∃ lw, Hid (lw = covLow xs low f) := ⟨_, rfl⟩
  rw [← HY.out] at hR3 ⊢
  rw [← HW.out]
  have H3 : Hid (Row .i64 w3 ao3 ys ∧ Row .i64 w3 ao1 xs ∧ Carried ys ∧ Same xs low ys lw ∧ Below w.heap.size w w3) :=
    ⟨hR3, H1.out.1.kept hb13, by rw [HY.out]; exact HCA.out.cov low f t, by rw [HY.out, HW.out]; exact Same.cov xs low f t, H1.out.2.2.trans (hb13.mono H1.out.2.2.size)⟩
  clear hO3 hb3 hR3 hb13
  by_cases hx : xs = []
  · subst hx
    have hlw : lw = f := by rw [HW.out]; rfl
    have hyl := covDig_length_nil low f t
    rw [← HY.out] at hyl
    subst hlw
    obtain ⟨M, HM⟩ : ∃ M : Int, Hid (M = max lw (t + 1)) := ⟨_, rfl⟩
    have m1 : M ≤ 1000000 := by have := HM.out; omega
    have m2 : -1000000 ≤ M := by have := HM.out; omega
    have y1 : (ys.length : Int) ≤ M - lw := by have := HM.out; omega
    have y2 : M - lw ≤ (ys.length : Int) := by have := HM.out; omega
    clear hyl
    go_wp2_with fail
    refine (max_any _ _ _).mono ?_
    rintro e w' ⟨rfl, rfl⟩
    rw [← HM.out]
    go_wp2_with fail
    refine (carried_any ys ao3 c3 _ H3.out.1 (by omega)).mono ?_
    rintro e w' ⟨⟨g, rfl, hg⟩, rfl⟩
    obtain rfl := hg.2 H3.out.2.2.1
    clear hg
    go_wp2_with fail
    refine (same_true [] ys ao1 ao3 c1 c3 low lw _ H3.out.2.1 H3.out.1 Carried.nil H3.out.2.2.1 H3.out.2.2.2.1 (by simp) (by omega) (by omega) (by omega) (by omega) (by omega) (.inl rfl)).mono ?_
    rintro e w' ⟨rfl, rfl⟩
    go_wp2_with fail
    go_ret
    exact ⟨rfl, H3.out.2.2.2.2⟩
  · have hlw : lw = min low f := by rw [HW.out, covLow, if_neg hx]
    have hyl := covDig_length xs low f t hx
    rw [← HY.out, ← HW.out] at hyl
    have hxp := List.length_pos_iff.2 hx
    obtain ⟨M, HM⟩ : ∃ M : Int, Hid (M = max (low + xs.length) (t + 1)) := ⟨_, rfl⟩
    have m1 : M ≤ 1000000 := by have := HM.out; omega
    have m2 : -1000000 ≤ M := by have := HM.out; omega
    have y1 : (ys.length : Int) ≤ M - lw := by have := HM.out; omega
    have y2 : M - lw ≤ (ys.length : Int) := by have := HM.out; omega
    have hcov : lw ≤ low ∧ low + xs.length ≤ lw + ys.length := by have := HM.out; omega
    have l1 : -65536 ≤ lw := by omega
    have l2 : lw ≤ 65536 := by omega
    have HLW : Hid (lw = min low f) := hlw
    clear hyl hlw hx
    go_wp2_with fail
    refine (min_any _ _ _).mono ?_
    rintro e w' ⟨rfl, rfl⟩
    rw [← HLW.out]
    go_wp2_with fail
    refine (max_any _ _ _).mono ?_
    rintro e w' ⟨rfl, rfl⟩
    rw [← HM.out]
    go_wp2_with fail
    refine (carried_any ys ao3 c3 _ H3.out.1 (by omega)).mono ?_
    rintro e w' ⟨⟨g, rfl, hg⟩, rfl⟩
    obtain rfl := hg.2 H3.out.2.2.1
    clear hg
    go_wp2_with fail
    refine (same_true xs ys ao1 ao3 c1 c3 low lw _ H3.out.2.1 H3.out.1 HCA.out H3.out.2.2.1 H3.out.2.2.2.1 (by omega) (by omega) (by omega) (by omega) (by omega) (by omega) (.inr hcov)).mono ?_
    rintro e w' ⟨rfl, rfl⟩
    go_wp2_with fail
    go_ret
    exact ⟨rfl, H3.out.2.2.2.2⟩

end Go.Proofs.Qxb6621626a
