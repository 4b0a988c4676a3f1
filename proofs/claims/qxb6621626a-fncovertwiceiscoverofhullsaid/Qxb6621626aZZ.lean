/-
  THE WALK of ZZCover: cover, whatever the sum, over a struct of its own.
-/
import Derived.Test.Qxb6621626aCover
import Derived.Test.Qxb6621626aCover2
import Derived.Test.Qxb6621626aCover3
namespace Go.Proofs.Qxb6621626a
open Go.RowKit

/-- cover, whatever the sum. -/
theorem cover_any (xs : List Int) (low f t : Int) (base sb : Nat) (v : Value) (w : World) (hB : Box w sb v (.int .i64 low)) (hO : Own base w v xs) (hsb : base ≤ sb) (hca : Carried xs)
    (hn : xs.length ≤ 1000000) (l1 : -400000 ≤ low) (l2 : low ≤ 400000) (f1 : -400000 ≤ f) (f2 : f ≤ 400000) (t1 : -400000 ≤ t) (t2 : t ≤ 400000) :
    Calls Try.prog 35 #[.pointer (some ⟨sb, 0, none⟩), .int .i64 f, .int .i64 t] w fun e w' => e = .returned (.tuple #[]) ∧ CovInv base sb (covLow xs low f) (covDig xs low f t) w w' := by
  by_cases hx : xs = []
  · subst hx
    have := cover_nil low f t base sb v w hB hO hsb (by omega) (by omega) (by omega) (by omega)
    unfold covLow covDig
    rw [if_pos rfl, if_pos rfl]
    exact this
  · by_cases hfl : f < low
    · obtain ⟨p, hp⟩ : ∃ p : Nat, low = f + p := ⟨(low - f).toNat, by omega⟩
      subst hp
      have := cover_below xs f t p base sb v w hx (by omega) hB hO hsb hca hn (by omega) (by omega) (by omega) (by omega) (by omega)
      unfold covLow covDig
      rw [if_neg hx, if_neg hx]
      have e1 : min (f + (p : Int)) f = f := by omega
      have e2 : (f + (p : Int) - f).toNat = p := by omega
      rw [e1, e2, ← extN_prefix _ _ _ hx]
      exact this
    · have := cover_plain xs low f t base sb v w hx (by omega) hB hO hsb hca hn (by omega) (by omega) (by omega) (by omega) (by omega) (by omega)
      unfold covLow covDig
      rw [if_neg hx, if_neg hx]
      have e1 : min low f = low := by omega
      have e2 : (low - f).toNat = 0 := by omega
      rw [e1, e2]
      exact this

/-- What ZZCover says. -/
def CoverSays (base : Nat) (ys : List Int) (lw : Int) (w : World) (e : Ending) (w' : World) : Prop := ∃ v, e = .returned (.tuple #[v, .int .i64 lw]) ∧ Own base w' v ys ∧ Below base w w'

set_option maxHeartbeats 1000000 in
theorem zzCover_any (xs : List Int) (low f t : Int) (base : Nat) (ao : Option Addr) (c : Nat) (w : World) (hO : Own base w (.slice ao xs.length c) xs) (hbase : base ≤ w.heap.size) (hca : Carried xs)
    (hn : xs.length ≤ 1000000) (l1 : -400000 ≤ low) (l2 : low ≤ 400000) (f1 : -400000 ≤ f) (f2 : f ≤ 400000) (t1 : -400000 ≤ t) (t2 : t ≤ 400000) :
    Calls Try.prog 12 #[.slice ao xs.length c, .int .i64 low, .int .i64 f, .int .i64 t] w fun e w' => CoverSays base (covDig xs low f t) (covLow xs low f) w e w' := by
  go_enter Try.func12, Try.ntmps12
  go_wp2_with fail
  refine (cover_any xs low f t base w.heap.size (.slice ao xs.length c) _ (heap_alloc_new w _) (hO.alloc _) hbase hca hn l1 l2 f1 f2 t1 t2).mono ?_
  rintro e w1 ⟨rfl, v1, hB1, hO1, hb1⟩
  obtain ⟨ao1, c1, hv, _⟩ := hO1.shape
  subst hv
  have k0 := hB1.c0
  have k1 := hB1.c1
  have HF : Hid (Own base w1 (.slice ao1 (covDig xs low f t).length c1) (covDig xs low f t) ∧ Below base w w1) := ⟨hO1, ((Below.refl _ _).alloc hbase _).trans hb1⟩
  obtain ⟨ys, HY⟩ : ∃ ys, Hid (ys = covDig xs low f t) := ⟨_, rfl⟩
  obtain ⟨lw, HW⟩ : ∃ lw, Hid (lw = covLow xs low f) := ⟨_, rfl⟩
  rw [← HY.out] at HF k0
  rw [← HW.out] at k1
  clear hO1 hb1 hB1 hO
  go_wp2_with fail
  go_quiet (fail)
  go_wp2_with fail
  go_ret2
  rw [← HY.out, ← HW.out]
  exact ⟨_, rfl, HF.out.1, below_drewN HF.out.2 _⟩

end Go.Proofs.Qxb6621626a
