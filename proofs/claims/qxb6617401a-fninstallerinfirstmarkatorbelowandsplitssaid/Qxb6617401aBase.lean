/-
  THE WALKS of the small functions: addBytes, addWords, memberBytes, sameWireL, sameWire, toWireMember.
-/
import Derived.Test.Qxb6617401aRows
import Derived.WalkKit
import Derived.WalkSpells
import Derived.WalkSmall
import Derived.Deep.QuietTactic
import Derived.BigQuiet
import Derived.Deep.RegionWith
import Derived.Deep.LoopGhost
namespace Go.Proofs.Qxb6617401a
open Go.RowKit

/-- A count of bytes: from 0 to one past the bound. -/
def CountSays (e : Ending) : Prop := ∃ r : Int, e = .returned (.int .i64 r) ∧ 0 ≤ r ∧ r ≤ 1048577

theorem addBytes_any (s n : Int) (w : World) (h0 : 0 ≤ s) (h1 : s ≤ 1048577) :
    Calls Try.prog 12 #[.int .i64 s, .int .i64 n] w fun e w' => CountSays e ∧ w = w' := by
  by_cases a : 1048576 < s
  · go_enter Try.func12, Try.ntmps12
    go_wp2
    go_ret
    exact ⟨⟨_, rfl, by omega, by omega⟩, rfl⟩
  · by_cases b : n < 0
    · go_enter Try.func12, Try.ntmps12
      go_wp2
      go_ret
      exact ⟨⟨_, rfl, by omega, by omega⟩, rfl⟩
    · by_cases c : 1048576 - s < n
      · go_enter Try.func12, Try.ntmps12
        go_wp2
        go_ret
        exact ⟨⟨_, rfl, by omega, by omega⟩, rfl⟩
      · go_enter Try.func12, Try.ntmps12
        go_wp2
        go_ret
        exact ⟨⟨s + n, rfl, by omega, by omega⟩, rfl⟩

theorem addWords_any (s n : Int) (w : World) (h0 : 0 ≤ s) (h1 : s ≤ 1048577) :
    Calls Try.prog 13 #[.int .i64 s, .int .i64 n] w fun e w' => CountSays e ∧ w = w' := by
  by_cases a : 1048576 < s
  · go_enter Try.func13, Try.ntmps13
    go_wp2
    go_ret
    exact ⟨⟨_, rfl, by omega, by omega⟩, rfl⟩
  · by_cases b : n < 0
    · go_enter Try.func13, Try.ntmps13
      go_wp2
      go_ret
      exact ⟨⟨_, rfl, by omega, by omega⟩, rfl⟩
    · by_cases c : (1048576 - s) / 8 < n
      · go_enter Try.func13, Try.ntmps13
        go_wp2
        go_ret
        exact ⟨⟨_, rfl, by omega, by omega⟩, rfl⟩
      · have c1 : 8 * n ≤ 1048576 - s := by omega
        go_enter Try.func13, Try.ntmps13
        go_wp2
        go_ret
        exact ⟨⟨s + 8 * n, rfl, by omega, by omega⟩, rfl⟩

set_option maxHeartbeats 1000000 in
theorem memberBytes_any (s : Int) (nm ad : ByteArray) (k : Int) (w : World) (h0 : 0 ≤ s) (h1 : s ≤ 1048577) :
    Calls Try.prog 11 #[.int .i64 s, .agg #[.string nm, .string ad, .int .u64 k]] w fun e w' => CountSays e ∧ Below w.heap.size w w' := by
  go_enter Try.func11, Try.ntmps11
  go_wp2_with fail
  refine (addBytes_any s 8 _ h0 h1).mono ?_
  rintro e w' ⟨⟨r1, rfl, a1, a2⟩, rfl⟩
  go_wp2_with fail
  refine (addBytes_any r1 _ _ a1 a2).mono ?_
  rintro e w' ⟨⟨r2, rfl, b1, b2⟩, rfl⟩
  go_wp2_with fail
  refine (addBytes_any r2 _ _ b1 b2).mono ?_
  rintro e w' ⟨⟨r3, rfl, c1, c2⟩, rfl⟩
  go_wp2_with fail
  go_ret
  exact ⟨⟨r3, rfl, c1, c2⟩, (Below.refl _ _).alloc (Nat.le_refl _) _⟩

/-- What a test of sameness says: true where the two are one. -/
def SameSays (same : Prop) (e : Ending) : Prop := ∃ g : Bool, e = .returned (.bool g) ∧ (same → g = true)

set_option maxHeartbeats 1000000 in
theorem sameWireL_any (n1 a1 n2 a2 : ByteArray) (k1 k2 : Int) (w : World) :
    Calls Try.prog 9 #[.agg #[.string n1, .string a1, .int .u64 k1], .agg #[.string n2, .string a2, .int .u64 k2]] w fun e w' => SameSays (n1 = n2 ∧ a1 = a2 ∧ k1 = k2) e ∧ Below w.heap.size w w' := by
  cases e1 : (n1.toList == n2.toList)
  · go_enter Try.func9, Try.ntmps9
    go_wp2
    go_ret
    exact ⟨⟨false, rfl, fun h => by rw [h.1] at e1; simp at e1⟩, ((Below.refl _ _).alloc (Nat.le_refl _) _).alloc (by simp) _⟩
  · cases e2 : (a1.toList == a2.toList)
    · go_enter Try.func9, Try.ntmps9
      go_wp2
      go_ret
      exact ⟨⟨false, rfl, fun h => by rw [h.2.1] at e2; simp at e2⟩, ((Below.refl _ _).alloc (Nat.le_refl _) _).alloc (by simp) _⟩
    · cases e3 : (k1 == k2)
      · go_enter Try.func9, Try.ntmps9
        go_wp2
        go_ret
        exact ⟨⟨false, rfl, fun h => by rw [h.2.2] at e3; simp at e3⟩, ((Below.refl _ _).alloc (Nat.le_refl _) _).alloc (by simp) _⟩
      · go_enter Try.func9, Try.ntmps9
        go_wp2
        go_ret
        exact ⟨⟨true, rfl, fun _ => rfl⟩, ((Below.refl _ _).alloc (Nat.le_refl _) _).alloc (by simp) _⟩

set_option maxHeartbeats 1000000 in
theorem sameWire_true (n a : ByteArray) (k : Int) (w : World) :
    Calls Try.prog 10 #[.agg #[.string n, .string a, .int .u64 k], .agg #[.string n, .string a, .int .u64 k]] w fun e w' => e = .returned (.bool true) ∧ Below w.heap.size w w' := by
  go_enter Try.func10, Try.ntmps10
  go_wp2
  go_ret
  exact ⟨rfl, ((Below.refl _ _).alloc (Nat.le_refl _) _).alloc (by simp) _⟩

set_option maxHeartbeats 1000000 in
theorem toWire_any (n a : ByteArray) (k : Int) (w : World) :
    Calls Try.prog 14 #[.agg #[.string n, .string a, .int .u64 k]] w fun e w' => e = .returned (.agg #[.string n, .string a, .int .u64 k]) ∧ (w.alloc (.cells #[.string n, .string a, .int .u64 k] 39)).alloc (.cells #[.string n, .string a, .int .u64 k] 35) = w' := by
  go_enter Try.func14, Try.ntmps14
  go_wp2
  exact bodyPost_ret (v := .agg #[.string n, .string a, .int .u64 k]) (by simp [results, Try.results14, go_sem]) rfl ⟨rfl, rfl⟩

end Go.Proofs.Qxb6617401a
