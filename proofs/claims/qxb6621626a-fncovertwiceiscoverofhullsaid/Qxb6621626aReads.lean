/-
  THE WALKS of the functions that only read: minInt, maxInt, indexOut, the two guards, carried, digitAt, sameValue, eqI64.
-/
import Derived.Test.Qxb6621626aPlain
import Derived.WalkKit
import Derived.WalkSpells
import Derived.WalkSmall
import Derived.Deep.QuietTactic
import Derived.BigQuiet
namespace Go.Proofs.Qxb6621626a
open Go.RowKit

/-- A slice's elements lie in memory: each cell behind its address holds its number. -/
def Row (k : IntKind) (w : World) (ao : Option Addr) (xs : List Int) : Prop :=
  ∀ i, i < xs.length → ∃ b off, ao = some ⟨b, off, none⟩ ∧ w.cell? ⟨b, off + i, none⟩ = some (.int k (xs.getD i 0))

theorem Row.kept {k : IntKind} {w w' : World} {ao : Option Addr} {xs : List Int} (h : Row k w ao xs) (hb : Below w.heap.size w w') : Row k w' ao xs := by
  intro i hi
  obtain ⟨b, off, e, hc⟩ := h i hi
  exact ⟨b, off, e, (hb.cell (p := ⟨b, off + i, none⟩) (World.block_lt_of_cell? w _ hc)).trans hc⟩

theorem ret_int {k : IntKind} {a b : Int} (h : a = b) : Ending.returned (.int k a) = .returned (.int k b) := by rw [h]

theorem min_any (a b : Int) (w : World) : Calls Try.prog 13 #[.int .i64 a, .int .i64 b] w fun e w' => e = .returned (.int .i64 (min a b)) ∧ w = w' := by
  by_cases h : a < b
  · go_enter Try.func13, Try.ntmps13
    go_wp2
    go_ret
    exact ⟨ret_int (by omega), rfl⟩
  · go_enter Try.func13, Try.ntmps13
    go_wp2
    go_ret
    exact ⟨ret_int (by omega), rfl⟩

theorem max_any (a b : Int) (w : World) : Calls Try.prog 14 #[.int .i64 a, .int .i64 b] w fun e w' => e = .returned (.int .i64 (max a b)) ∧ w = w' := by
  by_cases h : b < a
  · go_enter Try.func14, Try.ntmps14
    go_wp2
    go_ret
    exact ⟨ret_int (by omega), rfl⟩
  · go_enter Try.func14, Try.ntmps14
    go_wp2
    go_ret
    exact ⟨ret_int (by omega), rfl⟩

/-- What indexOut says: 'false' only within the bounds. -/
def OutSays (a : Int) (e : Ending) : Prop := ∃ g : Bool, e = .returned (.bool g) ∧ (g = false → -65536 ≤ a ∧ a ≤ 65536)
theorem out_any (a : Int) (w : World) : Calls Try.prog 9 #[.int .i64 a] w fun e w' => OutSays a e ∧ w = w' := by
  by_cases h1 : a < -65536
  · go_enter Try.func9, Try.ntmps9
    go_wp2
    go_ret
    exact ⟨⟨true, rfl, fun h => by cases h⟩, rfl⟩
  · by_cases h2 : 65536 < a
    · go_enter Try.func9, Try.ntmps9
      go_wp2
      go_ret
      exact ⟨⟨true, rfl, fun h => by cases h⟩, rfl⟩
    · go_enter Try.func9, Try.ntmps9
      go_wp2
      go_ret
      exact ⟨⟨false, rfl, fun _ => ⟨by omega, by omega⟩⟩, rfl⟩

theorem bytes8 (ao : Option Addr) (n c : Nat) (a b d : Int) (w : World) (hn : n ≤ maxLen) :
    Calls Try.prog 8 #[.slice ao n c, .int .i64 a, .int .i64 b, .int .i64 d] w fun e w' => (∃ g : Bool, e = .returned (.bool g)) ∧ w = w' := by
  unfold maxLen at hn
  go_enter Try.func8, Try.ntmps8
  go_wp2
  all_goals (go_ret; exact ⟨⟨_, rfl⟩, rfl⟩)

theorem bytes16 (ao : Option Addr) (n c : Nat) (a b d e f : Int) (w : World) (hn : n ≤ maxLen) :
    Calls Try.prog 16 #[.slice ao n c, .int .i64 a, .int .i64 b, .int .i64 d, .int .i64 e, .int .i64 f] w fun e w' => (∃ g : Bool, e = .returned (.bool g)) ∧ w = w' := by
  unfold maxLen at hn
  go_enter Try.func16, Try.ntmps16
  go_wp2
  all_goals (go_ret; exact ⟨⟨_, rfl⟩, rfl⟩)

set_option maxHeartbeats 400000 in
/-- digitAt. -/
theorem digit_any (xs : List Int) (ao : Option Addr) (c : Nat) (low k : Int) (w : World) (hrow : Row .i64 w ao xs) (hn : xs.length ≤ 1000000000) (l1 : -1000000000 ≤ low) (l2 : low ≤ 1000000000) (k1 : -1000000000 ≤ k) (k2 : k ≤ 1000000000) :
    Calls Try.prog 36 #[.slice ao xs.length c, .int .i64 low, .int .i64 k] w fun e w' => e = .returned (.int .i64 (dig xs low k)) ∧ w = w' := by
  by_cases h1 : k < low
  · go_enter Try.func36, Try.ntmps36
    go_wp2
    go_ret
    exact ⟨ret_int (by simp [dig, h1]), rfl⟩
  · by_cases h2 : low + xs.length ≤ k
    · have e := dig_above xs low k h2
      have HE : Hid (dig xs low k = 0) := e
      clear e
      have h3 : (xs.length : Int) ≤ k - low := by omega
      go_enter Try.func36, Try.ntmps36
      go_wp2
      go_ret
      exact ⟨ret_int HE.out.symm, rfl⟩
    · obtain ⟨i, hi⟩ : ∃ i : Nat, k = low + i := ⟨(k - low).toNat, by omega⟩
      subst hi
      have hlt : i < xs.length := by omega
      obtain ⟨b, off, rfl, hc⟩ := hrow i hlt
      have e : low + (i : Int) - low = i := by omega
      have HE : Hid (dig xs low (low + i) = xs.getD i 0) := by
        show dig xs low (low + i) = xs.getD i 0
        rw [dig, if_neg h1, e]; simp
      generalize hz : xs.getD i 0 = z at hc HE
      clear hz
      go_enter Try.func36, Try.ntmps36
      go_wp2
      go_ret
      exact ⟨ret_int HE.out.symm, rfl⟩

/-- What carried says. -/
def CarriedSays (xs : List Int) (e : Ending) : Prop := ∃ g : Bool, e = .returned (.bool g) ∧ (g = true ↔ Carried xs)

/-- The first k digits are as they should be. -/
def CarriedTo (xs : List Int) (k : Nat) : Prop := ∀ i, i < k → (i + 1 < xs.length → 0 ≤ xs.getD i 0 ∧ xs.getD i 0 ≤ 4294967295) ∧ (i + 1 = xs.length → -2147483648 ≤ xs.getD i 0 ∧ xs.getD i 0 ≤ 2147483647)

theorem carried_no (xs : List Int) (k : Nat) (hk : k < xs.length) (h : ¬ ((k + 1 < xs.length → 0 ≤ xs.getD k 0 ∧ xs.getD k 0 ≤ 4294967295) ∧ (k + 1 = xs.length → -2147483648 ≤ xs.getD k 0 ∧ xs.getD k 0 ≤ 2147483647))) : CarriedSays xs (.returned (.bool false)) :=
  ⟨false, rfl, ⟨fun e => (by cases e), fun hc => absurd (hc k hk) h⟩⟩

theorem carried_yes (xs : List Int) (h : CarriedTo xs xs.length) : CarriedSays xs (.returned (.bool true)) := ⟨true, rfl, ⟨fun _ => h, fun _ => rfl⟩⟩

theorem CarriedTo.step {xs : List Int} {k : Nat} (h : CarriedTo xs k) (hk : (k + 1 < xs.length → 0 ≤ xs.getD k 0 ∧ xs.getD k 0 ≤ 4294967295) ∧ (k + 1 = xs.length → -2147483648 ≤ xs.getD k 0 ∧ xs.getD k 0 ≤ 2147483647)) : CarriedTo xs (k + 1) := by
  intro i hi
  by_cases e : i = k
  · subst e; exact hk
  · exact h i (by omega)

set_option maxHeartbeats 1000000 in
theorem carried_any (xs : List Int) (ao : Option Addr) (c : Nat) (w : World) (hrow : Row .i64 w ao xs) (hn : xs.length ≤ 1000000000) :
    Calls Try.prog 10 #[.slice ao xs.length c] w fun e w' => CarriedSays xs e ∧ w = w' := by
  go_enter Try.func10, Try.ntmps10
  go_wp2
  go_loop [3] (fun i => ∃ k : Nat, k ≤ xs.length ∧ i = .int .i64 k ∧ Hid (CarriedTo xs k)) (fun i => xs.length - (intOf i).toNat)
  case atStart => exact ⟨0, Nat.zero_le _, rfl, fun i hi => absurd hi (by omega)⟩
  case round =>
    obtain ⟨k, hk, rfl, hto⟩ := hrel
    by_cases hlt : k < xs.length
    · obtain ⟨b, off, rfl, hc⟩ := hrow k hlt
      have hno := carried_no xs k hlt
      have hst := hto.out.step
      generalize hz : xs.getD k 0 = z at hc hno hst
      clear hz hrow
      have HN := And.intro hno hst
      have HN' : Hid _ := HN
      clear hno hst HN
      by_cases h1 : k + 1 < xs.length
      · by_cases h2 : z < 0
        · go_wp2
          go_ret
          exact ⟨HN'.out.1 (by omega), rfl⟩
        · by_cases h3 : 4294967295 < z
          · go_wp2
            go_ret
            exact ⟨HN'.out.1 (by omega), rfl⟩
          · go_wp2
            go_round
            case rel => exact ⟨k + 1, by omega, by go_num, HN'.out.2 (by omega)⟩
            case measure => simp [intOf]; omega
      · by_cases h2 : z < -2147483648
        · go_wp2
          go_ret
          exact ⟨HN'.out.1 (by omega), rfl⟩
        · by_cases h3 : 2147483647 < z
          · go_wp2
            go_ret
            exact ⟨HN'.out.1 (by omega), rfl⟩
          · go_wp2
            go_round
            case rel => exact ⟨k + 1, by omega, by go_num, HN'.out.2 (by omega)⟩
            case measure => simp [intOf]; omega
    · obtain rfl : k = xs.length := by omega
      go_wp2
      go_ret
      exact ⟨carried_yes xs hto.out, rfl⟩

end Go.Proofs.Qxb6621626a
