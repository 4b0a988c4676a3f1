/-
  THE WALKS of the functions that only read: the two guards, b1Has, b1EqualWords (at two equal rows), b1Pop.
-/
import Derived.Test.Qxb6621677aSets
import Derived.WalkKit
import Derived.WalkSpells
import Derived.WalkSmall
import Derived.Deep.QuietTactic
import Derived.BigQuiet
namespace Go.Proofs.Qxb6621677a
open Go.RowKit

/-- A slice's elements lie in memory: each cell behind its address holds its number. -/
def Row (k : IntKind) (w : World) (ao : Option Addr) (xs : List Int) : Prop :=
  ∀ i, i < xs.length → ∃ b off, ao = some ⟨b, off, none⟩ ∧ w.cell? ⟨b, off + i, none⟩ = some (.int k (xs.getD i 0))

theorem Row.kept {k : IntKind} {w w' : World} {ao : Option Addr} {xs : List Int} (h : Row k w ao xs) (hb : Below w.heap.size w w') : Row k w' ao xs := by
  intro i hi
  obtain ⟨b, off, e, hc⟩ := h i hi
  exact ⟨b, off, e, (hb.cell (p := ⟨b, off + i, none⟩) (World.block_lt_of_cell? w _ hc)).trans hc⟩
theorem Row.drewN {k : IntKind} {w : World} {ao : Option Addr} {xs : List Int} (h : Row k w ao xs) (n : Nat) : Row k (w.drewN n) ao xs := h.kept (below_drewN (Below.refl _ _) n)

theorem ret_bool {a b : Bool} (h : a = b) : Ending.returned (.bool a) = .returned (.bool b) := by rw [h]

theorem bytes9 (f : Int) (ao : Option Addr) (n c : Nat) (a b : Int) (w : World) (hn : n ≤ maxLen) :
    Calls Try.prog 9 #[.int .u64 f, .slice ao n c, .int .i64 a, .int .i64 b] w fun e w' => (∃ g : Bool, e = .returned (.bool g)) ∧ w = w' := by
  unfold maxLen at hn
  go_enter Try.func9, Try.ntmps9
  go_wp2
  all_goals (go_ret; exact ⟨⟨_, rfl⟩, rfl⟩)

theorem bytes14 (f : Int) (ao : Option Addr) (n c : Nat) (a : Int) (w : World) (hn : n ≤ maxLen) :
    Calls Try.prog 14 #[.int .u64 f, .slice ao n c, .int .i64 a] w fun e w' => (∃ g : Bool, e = .returned (.bool g)) ∧ w = w' := by
  unfold maxLen at hn
  go_enter Try.func14, Try.ntmps14
  go_wp2
  all_goals (go_ret; exact ⟨⟨_, rfl⟩, rfl⟩)

set_option maxHeartbeats 1000000 in
theorem has_any (f : Int) (ms : List Int) (ao : Option Addr) (c p : Nat) (w : World) (hrow : Row .u64 w ao ms) (hf : Wd f) (hw : WdL ms) (hn : ms.length ≤ 1000000) (hp : p ≤ 100000000) :
    Calls Try.prog 13 #[.int .u64 f, .slice ao ms.length c, .int .i64 p] w fun e w' => e = .returned (.bool (has f ms p)) ∧ w = w' := by
  by_cases h1 : p < 64
  · have hpi : (p : Int) < 64 := by omega
    have HE : Hid ((bits .and .u64 (f / 2 ^ p) 1 == 1) = has f ms p) := by
      show (bits .and .u64 (f / 2 ^ p) 1 == 1) = has f ms p
      rw [tst_shift f p hf, has, word, show p / 64 = 0 by omega, if_pos rfl, Nat.mod_eq_of_lt h1]
    go_enter Try.func13, Try.ntmps13
    go_wp2
    go_ret
    exact ⟨ret_bool HE.out, rfl⟩
  · obtain ⟨q, hq⟩ : ∃ q, p / 64 = q + 1 := ⟨p / 64 - 1, by omega⟩
    have hqi : (p : Int) / 64 - 1 = q := by omega
    have hpi : ¬ (p : Int) < 64 := by omega
    have HQ : Hid (p / 64 = q + 1) := hq
    clear hq
    by_cases h2 : ms.length ≤ q
    · have HE : Hid (false = has f ms p) := by
        show false = has f ms p
        rw [has, word, HQ.out, if_neg (by omega), Nat.add_sub_cancel, List.getD_eq_getElem?_getD, List.getElem?_eq_none h2]
        exact (tst_zero _).symm
      go_enter Try.func13, Try.ntmps13
      go_wp2
      go_ret
      exact ⟨ret_bool HE.out, rfl⟩
    · obtain ⟨b, off, rfl, hc⟩ := hrow q (by omega)
      obtain ⟨r, HRR⟩ : ∃ r, Hid (r = p % 64) := ⟨_, rfl⟩
      have hri : (p : Int) % 64 = r := by have := HRR.out; omega
      have hr64 : r < 64 := by have := HRR.out; omega
      have HE : Hid ((bits .and .u64 (ms.getD q 0 / 2 ^ r) 1 == 1) = has f ms p) := by
        show (bits .and .u64 (ms.getD q 0 / 2 ^ r) 1 == 1) = has f ms p
        rw [tst_shift _ r (hw q), has, word, HQ.out, if_neg (by omega), Nat.add_sub_cancel, ← HRR.out]
      generalize ms.getD q 0 = z at hc HE
      clear hrow hw hf
      go_enter Try.func13, Try.ntmps13
      go_wp2
      go_ret
      exact ⟨ret_bool HE.out, rfl⟩

set_option maxHeartbeats 1000000 in
theorem eq_true (xs : List Int) (ao1 ao2 : Option Addr) (c1 c2 : Nat) (w : World) (h1 : Row .u64 w ao1 xs) (h2 : Row .u64 w ao2 xs) (hn : xs.length ≤ 1000000000) :
    Calls Try.prog 12 #[.slice ao1 xs.length c1, .slice ao2 xs.length c2] w fun e w' => e = .returned (.bool true) ∧ ∃ n, w' = w.drewN n := by
  go_enter Try.func12, Try.ntmps12
  go_wp2
  go_loopw [5] (fun i wr => ∃ (k m : Nat), k ≤ xs.length ∧ i = .int .i64 k ∧ wr = w.drewN m) (fun i _ => xs.length - (intOf i).toNat)
  case atStart => exact ⟨0, 0, Nat.zero_le _, rfl, rfl⟩
  case round =>
    obtain ⟨k, m, hk, rfl, rfl⟩ := hrel
    by_cases hlt : k < xs.length
    · obtain ⟨b, off, rfl, hc⟩ := h1 k hlt
      obtain ⟨b', off', rfl, hc'⟩ := h2 k hlt
      clear h1 h2
      generalize hz : xs.getD k 0 = z at hc hc'
      clear hz
      have hl : (k : Int) < (xs.length : Int) := by omega
      go_wp2
      go_quiet (fail)
      go_wp2
      go_roundw
      case rel => exact ⟨k + 1, _, by omega, by go_num, rfl⟩
      case measure => simp [intOf]; omega
    · go_wp2
      go_ret
      exact ⟨rfl, _, rfl⟩

set_option maxHeartbeats 1000000 in
theorem pop_any (x : Int) (w : World) (hx : Wd x) :
    Calls Try.prog 15 #[.int .u64 x] w fun e w' => e = .returned (.int .i64 (pop x)) ∧ w = w' := by
  have HX : Hid (Wd x) := hx
  clear hx
  go_enter Try.func15, Try.ntmps15
  go_wp2
  go_loop [0, 3] (fun s t => ∃ (y : Int) (k : Nat), s = .int .u64 y ∧ t = .int .i64 k ∧ Hid (Wd y ∧ k + pop y = pop x)) (fun s _ => pop (intOf s))
  case atStart => exact ⟨x, 0, rfl, rfl, HX.out, by omega⟩
  case round =>
    obtain ⟨y, k, rfl, rfl, HY⟩ := hrel
    by_cases h0 : y = 0
    · subst h0
      have hk : (k : Int) = pop x := by have := HY.out.2; rw [pop_zero] at this; omega
      have HK : Hid ((k : Int) = pop x) := hk
      clear hk
      go_wp2
      go_ret
      exact ⟨by rw [← HK.out]; rfl, rfl⟩
    · obtain ⟨z, hz1, hz2, hz3⟩ := pop_round y HY.out.1 h0
      have hkb : (k : Int) ≤ 64 := by have := HY.out.2; have := pop_le x; omega
      have hy1 : 1 ≤ y := by have := HY.out.1.1; omega
      have hy0 : (y == 0) = false := by rw [beq_eq_false_iff_ne]; exact h0
      have hy2 : y ≤ 18446744073709551615 := by have := HY.out.1.2; omega
      have HZ : Hid (Wd z ∧ pop y = pop z + 1) := ⟨hz1, hz2⟩
      clear hz1 hz2
      go_wp2
      go_round
      case rel => exact ⟨z, k + 1, rfl, by go_num, HZ.out.1, by have := HY.out.2; have := HZ.out.2; omega⟩
      case measure => have := HZ.out.2; simp [intOf]; omega

end Go.Proofs.Qxb6621677a
