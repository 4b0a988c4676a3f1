/-
  THE WALKS of this seat: fmt.Errorf at the three formats, inRange, optional, ZZOptional, ZZInRange, each by a contract; for every F.
-/
import Derived.Test.Qxb6621616aFmtRows
import Derived.Test.Qxb6621616aFmtFacts
import Derived.WalkKit
import Derived.WalkSpells
import Derived.WalkSmall
import Derived.Deep.RegionWith
import Derived.Deep.QuietTactic
import Derived.BigQuiet
namespace Go.Proofs.Qxb6621616aFmt
open Go.RowKit Go.Extern.Stop Go.Stop Go.Extern
attribute [local go_sem] call12 guard fmt0 fmt0r fmt1 fmt1r fmt2 fmt2r op9w op9 op3w op3 ptr37 elem37 isError37

set_option maxHeartbeats 400000 in
/-- fmt.Errorf at the format of 'optional'. -/
theorem errorf0 (F : Interp) (s : ByteArray) (blk : Nat) (w : World) (hF : F.answers w.tape) (hc : w.cell? ⟨blk, 0, none⟩ = some (.iface 9 (.string s))) :
    Calls Tryf.prog 11 #[.string ⟨#[37, 115, 32, 105, 115, 32, 98, 101, 108, 111, 119, 32, 49]⟩, .slice (some ⟨blk, 0, none⟩) 1 1] w fun e w' =>
      e = .returned (.iface 37 (.pointer (some ⟨w.heap.size, 0, none⟩))) ∧ Below w.heap.size w w' := by
  have hF' := answers_open hF
  go_enter Tryf.func11, Tryf.ntmps11
  go_wp2
  go_ret
  exact ⟨rfl, ((Below.refl _ _).alloc (Nat.le_refl _) _).drew⟩

set_option maxHeartbeats 400000 in
/-- fmt.Errorf at the first format of 'inRange'. -/
theorem errorf1 (F : Interp) (s : ByteArray) (blk : Nat) (w : World) (hF : F.answers w.tape) (hc : w.cell? ⟨blk, 0, none⟩ = some (.iface 9 (.string s))) :
    Calls Tryf.prog 11 #[.string ⟨#[37, 115, 32, 105, 115, 32, 109, 105, 115, 115, 105, 110, 103, 32, 111, 114, 32, 98, 101, 108, 111, 119, 32, 49]⟩, .slice (some ⟨blk, 0, none⟩) 1 1] w fun e w' =>
      e = .returned (.iface 37 (.pointer (some ⟨w.heap.size, 0, none⟩))) ∧ Below w.heap.size w w' := by
  have hF' := answers_open hF
  go_enter Tryf.func11, Tryf.ntmps11
  go_wp2
  go_ret
  exact ⟨rfl, ((Below.refl _ _).alloc (Nat.le_refl _) _).drew⟩

set_option maxHeartbeats 400000 in
/-- fmt.Errorf at the second format of 'inRange'. -/
theorem errorf2 (F : Interp) (s : ByteArray) (n : Int) (blk : Nat) (w : World) (hF : F.answers w.tape) (hc : w.cell? ⟨blk, 0, none⟩ = some (.iface 9 (.string s))) (hd : w.cell? ⟨blk, 1, none⟩ = some (.iface 3 (.int .i64 n))) :
    Calls Tryf.prog 11 #[.string ⟨#[37, 115, 32, 105, 115, 32, 97, 98, 111, 118, 101, 32, 37, 100]⟩, .slice (some ⟨blk, 0, none⟩) 2 2] w fun e w' =>
      e = .returned (.iface 37 (.pointer (some ⟨w.heap.size, 0, none⟩))) ∧ Below w.heap.size w w' := by
  have hF' := answers_open hF
  go_enter Tryf.func11, Tryf.ntmps11
  go_wp2
  go_ret
  exact ⟨rfl, ((Below.refl _ _).alloc (Nat.le_refl _) _).drew⟩

/-- 'e' gives an error that is not nil. -/
def Bad (e : Ending) : Prop := ∃ a, e = .returned (.iface 37 (.pointer (some a)))

set_option maxHeartbeats 400000 in
theorem inRange_low (F : Interp) (s : ByteArray) (v m : Int) (w : World) (hF : F.answers w.tape) (hv : v < 1) :
    Calls Tryf.prog 10 #[.string s, .int .i64 v, .int .i64 m] w fun e w' => (∃ a, e = .returned (.iface 37 (.pointer (some a)))) ∧ Below w.heap.size w w' := by
  go_enter Tryf.func10, Tryf.ntmps10
  go_wp2_with fail
  refine (errorf1 F s _ _ (by exact hF) (by go_simp)).mono ?_
  rintro e w' ⟨rfl, hb⟩
  go_wp2_with fail
  go_ret
  exact ⟨⟨_, rfl⟩, ((Below.refl _ _).alloc (Nat.le_refl _) _).trans (hb.mono (by simp))⟩

set_option maxHeartbeats 400000 in
theorem inRange_high (F : Interp) (s : ByteArray) (v m : Int) (w : World) (hF : F.answers w.tape) (hv : 1 ≤ v) (hm : m < v) :
    Calls Tryf.prog 10 #[.string s, .int .i64 v, .int .i64 m] w fun e w' => (∃ a, e = .returned (.iface 37 (.pointer (some a)))) ∧ Below w.heap.size w w' := by
  go_enter Tryf.func10, Tryf.ntmps10
  go_wp2_with fail
  refine (errorf2 F s m _ _ (by exact hF) (by go_simp) (by go_simp)).mono ?_
  rintro e w' ⟨rfl, hb⟩
  go_wp2_with fail
  go_ret
  exact ⟨⟨_, rfl⟩, ((Below.refl _ _).alloc (Nat.le_refl _) _).trans (hb.mono (by simp))⟩

theorem inRange_ok (s : ByteArray) (v m : Int) (w : World) (hv : 1 ≤ v) (hm : v ≤ m) :
    Calls Tryf.prog 10 #[.string s, .int .i64 v, .int .i64 m] w fun e w' => e = .returned .nilIface ∧ w' = w := by
  go_enter Tryf.func10, Tryf.ntmps10
  go_wp2
  go_ret
  exact ⟨rfl, rfl⟩

theorem optional_nil (s : ByteArray) (d m : Int) (w : World) :
    Calls Tryf.prog 9 #[.string s, .pointer none, .int .i64 d, .int .i64 m] w fun e w' => e = .returned (.tuple #[.int .i64 d, .nilIface]) ∧ w' = w := by
  go_enter Tryf.func9, Tryf.ntmps9
  go_wp2
  go_ret2
  exact ⟨rfl, rfl⟩

set_option maxHeartbeats 400000 in
theorem optional_low (F : Interp) (s : ByteArray) (b : Nat) (v d m : Int) (w : World) (hF : F.answers w.tape) (hc : w.cell? ⟨b, 0, none⟩ = some (.int .i64 v)) (hv : v < 1) :
    Calls Tryf.prog 9 #[.string s, .pointer (some ⟨b, 0, none⟩), .int .i64 d, .int .i64 m] w fun e w' => (∃ a, e = .returned (.tuple #[.int .i64 0, .iface 37 (.pointer (some a))])) ∧ Below w.heap.size w w' := by
  go_enter Tryf.func9, Tryf.ntmps9
  go_wp2_with fail
  refine (errorf0 F s _ _ (by exact hF) (by go_simp)).mono ?_
  rintro e w' ⟨rfl, hb⟩
  go_wp2_with fail
  go_ret2
  exact ⟨⟨_, rfl⟩, ((Below.refl _ _).alloc (Nat.le_refl _) _).trans (hb.mono (by simp))⟩

set_option maxHeartbeats 400000 in
theorem optional_ok (s : ByteArray) (b : Nat) (v d m : Int) (w : World) (hc : w.cell? ⟨b, 0, none⟩ = some (.int .i64 v)) (hv : 1 ≤ v) (hm : v ≤ m) :
    Calls Tryf.prog 9 #[.string s, .pointer (some ⟨b, 0, none⟩), .int .i64 d, .int .i64 m] w fun e w' => e = .returned (.tuple #[.int .i64 v, .nilIface]) ∧ Below w.heap.size w w' := by
  go_enter Tryf.func9, Tryf.ntmps9
  go_wp2_with fail
  go_quiet ((go_at_call 10; exact Calls.quiet_of_same (inRange_ok _ _ _ _ (by omega) (by omega))))
  go_wp2_with fail
  go_ret2
  exact ⟨rfl, below_drewN (Below.refl _ _) _⟩

set_option maxHeartbeats 1000000 in
theorem optional_high (F : Interp) (s : ByteArray) (b : Nat) (v d m : Int) (w : World) (hF : F.answers w.tape) (hb : b < w.heap.size) (hc : w.cell? ⟨b, 0, none⟩ = some (.int .i64 v)) (hv : 1 ≤ v) (hm : m < v) :
    Calls Tryf.prog 9 #[.string s, .pointer (some ⟨b, 0, none⟩), .int .i64 d, .int .i64 m] w fun e w' => (∃ a, e = .returned (.tuple #[.int .i64 v, .iface 37 (.pointer (some a))])) ∧ Below w.heap.size w w' := by
  have hk : ∀ w1 : World, Below w.heap.size w w1 → w1.cell? ⟨b, 0, none⟩ = some (.int .i64 v) := fun w1 h => (h.cell (p := ⟨b, 0, none⟩) hb).trans hc
  have HK := hk
  clear hk
  go_enter Tryf.func9, Tryf.ntmps9
  go_wp2_with fail
  go_region_with (go_at_call 10; refine (inRange_high F _ _ _ _ (by exact hF) (by omega) (by omega)).mono ?_; rintro e w' ⟨⟨a, rfl⟩, hbel⟩; have hcl := HK _ ((Below.refl _ _).drew.trans hbel))
  all_goals
    go_wp2_with fail
    go_ret2
    exact ⟨⟨_, rfl⟩, (Below.refl _ _).drew.trans (by assumption)⟩

end Go.Proofs.Qxb6621616aFmt
