/-
  THE WALK of ZZKeySetAdd: add, whatever the place, over a struct of its own.
-/
import Derived.Test.Qxb6621677aAdd
namespace Go.Proofs.Qxb6621677a
open Go.RowKit

theorem add_any (f : Int) (ms : List Int) (i : Nat) (base sb : Nat) (v : Value) (w : World) (hB : Box w sb (.int .u64 f) v) (hO : Own base w v ms) (hsb : base ≤ sb) (hf : Wd f) (hw : WdL ms) (hib : i ≤ 1000000) (hn : ms.length ≤ 1000000) :
    Calls Try.prog 17 #[.pointer (some ⟨sb, 0, none⟩), .int .i64 i] w fun e w' => e = .returned (.tuple #[]) ∧ AddInv base sb (addF f i) (addM ms i) w w' := by
  by_cases hi : i < 64
  · have := add_low f ms i base sb v w hB hO hsb hf hi
    unfold addF addM
    rw [if_pos hi, if_pos hi]
    exact this
  · obtain ⟨q, hq⟩ : ∃ q, i / 64 = q + 1 := ⟨i / 64 - 1, by omega⟩
    have := add_high f ms i q base sb v w hB hO hsb hw (by omega) hib hq hn
    unfold addF addM
    rw [if_neg hi, if_neg hi, hq, Nat.add_sub_cancel]
    exact this

/-- What ZZKeySetAdd says. -/
def AddSays (base : Nat) (f : Int) (ms : List Int) (w : World) (e : Ending) (w' : World) : Prop := ∃ v, e = .returned (.tuple #[.int .u64 f, v]) ∧ Own base w' v ms ∧ Below base w w'

set_option maxHeartbeats 1000000 in
theorem zzAdd_any (f : Int) (ms : List Int) (i : Nat) (base : Nat) (ao : Option Addr) (c : Nat) (w : World) (hO : Own base w (.slice ao ms.length c) ms) (hbase : base ≤ w.heap.size) (hf : Wd f) (hw : WdL ms) (hib : i ≤ 1000000) (hn : ms.length ≤ 1000000) :
    Calls Try.prog 11 #[.int .u64 f, .slice ao ms.length c, .int .i64 i] w fun e w' => AddSays base (addF f i) (addM ms i) w e w' := by
  go_enter Try.func11, Try.ntmps11
  go_wp2_with fail
  refine (add_any f ms i base w.heap.size (.slice ao ms.length c) _ (heap_alloc_new w _) (hO.alloc _) hbase hf hw hib hn).mono ?_
  rintro e w1 ⟨rfl, v1, hB1, hO1, hb1⟩
  obtain ⟨ao1, c1, hv, _⟩ := hO1.shape
  subst hv
  have k0 := hB1.c0
  have k1 := hB1.c1
  have HF : Hid (Own base w1 (.slice ao1 (addM ms i).length c1) (addM ms i) ∧ Below base w w1) := ⟨hO1, ((Below.refl _ _).alloc hbase _).trans hb1⟩
  obtain ⟨ys, HY⟩ : ∃ ys, Hid (ys = addM ms i) := ⟨_, rfl⟩
  obtain ⟨f1, HW⟩ : ∃ f1, Hid (f1 = addF f i) := ⟨_, rfl⟩
  rw [← HY.out] at HF k1
  rw [← HW.out] at k0
  clear hO1 hb1 hB1 hO
  go_wp2_with fail
  go_quiet (fail)
  go_wp2_with fail
  go_ret2
  rw [← HY.out, ← HW.out]
  exact ⟨_, rfl, HF.out.1, below_drewN HF.out.2 _⟩

end Go.Proofs.Qxb6621677a
