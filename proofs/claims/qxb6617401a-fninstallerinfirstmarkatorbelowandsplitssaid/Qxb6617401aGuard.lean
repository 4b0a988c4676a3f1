/-
  THE WALK of the guard: a bool; 'true' only where the three slices are short.
-/
import Derived.Test.Qxb6617401aView
namespace Go.Proofs.Qxb6617401a
open Go.RowKit

/-- What the guard says. -/
def GuardSays (a b c : Nat) (e : Ending) : Prop := ∃ g : Bool, e = .returned (.bool g) ∧ (g = true → a ≤ 1048576 ∧ b ≤ 1048576 ∧ c ≤ 1048576)

set_option maxRecDepth 100000 in
set_option maxHeartbeats 8000000 in
theorem guard_any (vid id kk : Int) (am al asb : Option Addr) (cm cl cs : Nat) (ms : List Mb) (ls : List Mk) (ss : List Nat) (w : World) (hm : RowM w am ms) (hl : RowL w al ls) (hs : RowS w asb ss) (nm : ms.length ≤ maxLen) (nl : ls.length ≤ maxLen) (ns : ss.length ≤ maxLen) :
    Calls Try.prog 4 #[.int .u64 vid, .slice am ms.length cm, .slice al ls.length cl, .slice asb ss.length cs, .int .u64 id, .int .i64 kk] w fun e w' => GuardSays ms.length ls.length ss.length e ∧ w = w' := by
  unfold maxLen at nm nl ns
  have HM : Hid (RowM w am ms) := hm
  have HLn : Hid (RowL w al ls) := hl
  have HS : Hid (RowS w asb ss) := hs
  clear hm hl hs
  by_cases tM : (ms.length : Int) ≤ 1048576
  · go_enter Try.func4, Try.ntmps4
    go_wp2_with fail
    go_loopg [13, 14] ms.length (fun g s t wr => ∃ (k : Nat) (r : Int), Hid (k + g = ms.length) ∧ t = .int .i64 k ∧ s = .int .i64 r ∧ 0 ≤ r ∧ r ≤ 1048576 ∧ w = wr)
    case atStart => exact ⟨0, _, Nat.zero_add _, rfl, rfl, by omega, by omega, rfl⟩
    case round =>
      obtain ⟨k, r, hk, rfl, rfl, hr0, hr1, rfl⟩ := hrel
      by_cases hlt : k < ms.length
      · have hki : (k : Int) < (ms.length : Int) := by omega
        obtain ⟨b, off, rfl, h1, h2, h3, hl⟩ := HM.out k hlt
        generalize ms.getD k mb0 = z at h1 h2 h3
        obtain ⟨z2, z3, z4⟩ := z
        simp only at h1 h2 h3
        by_cases s1 : (z2.size : Int) ≤ 1048576
        · skip
          by_cases s2 : r + (z2.size : Int) ≤ 1048576
          · skip
            by_cases s3 : (z3.size : Int) ≤ 1048576
            · skip
              by_cases s4 : r + (z2.size : Int) + (z3.size : Int) ≤ 1048576
              · skip
                go_wp2_with fail
                go_roundg (gk - 1)
                case measure => have := hk.out; omega
                case rel => exact ⟨k + 1, r + (z2.size : Int) + (z3.size : Int), (by have := hk.out; show k + 1 + (gk - 1) = ms.length; omega), by go_num, by go_num, by omega, by omega, rfl⟩
              · skip
                go_wp2_with fail
                go_ret
                exact ⟨⟨false, rfl, fun h => by cases h⟩, rfl⟩
            · skip
              go_wp2_with fail
              go_ret
              exact ⟨⟨false, rfl, fun h => by cases h⟩, rfl⟩
          · skip
            go_wp2_with fail
            go_ret
            exact ⟨⟨false, rfl, fun h => by cases h⟩, rfl⟩
        · skip
          go_wp2_with fail
          go_ret
          exact ⟨⟨false, rfl, fun h => by cases h⟩, rfl⟩

      · have hki : ¬ (k : Int) < (ms.length : Int) := by omega
        clear hk hlt
        by_cases tL : (ls.length : Int) ≤ 1048576
        · skip
          by_cases tL2 : r + (ls.length : Int) ≤ 1048576
          · skip
            go_wp2_with fail
            go_loopg [13, 15] ls.length (fun g s t wr => ∃ (k : Nat) (r : Int), Hid (k + g = ls.length) ∧ t = .int .i64 k ∧ s = .int .i64 r ∧ 0 ≤ r ∧ r ≤ 1048576 ∧ w = wr)
            case atStart => exact ⟨0, _, Nat.zero_add _, rfl, rfl, by omega, by omega, rfl⟩
            case round =>
              obtain ⟨k, r, hk, rfl, rfl, hr0, hr1, rfl⟩ := hrel
              by_cases hlt : k < ls.length
              · have hki : (k : Int) < (ls.length : Int) := by omega
                obtain ⟨b, off, rfl, h0, h1, h2, h3, hl⟩ := HLn.out k hlt
                generalize ls.getD k mk0 = z at h0 h1 h2 h3
                obtain ⟨z1, z2, z3, z4⟩ := z
                simp only at h0 h1 h2 h3
                by_cases s1 : (z2.size : Int) ≤ 1048576
                · skip
                  by_cases s2 : r + (z2.size : Int) ≤ 1048576
                  · skip
                    by_cases s3 : (z3.size : Int) ≤ 1048576
                    · skip
                      by_cases s4 : r + (z2.size : Int) + (z3.size : Int) ≤ 1048576
                      · skip
                        go_wp2_with fail
                        go_roundg (gk - 1)
                        case measure => have := hk.out; omega
                        case rel => exact ⟨k + 1, r + (z2.size : Int) + (z3.size : Int), (by have := hk.out; show k + 1 + (gk - 1) = ls.length; omega), by go_num, by go_num, by omega, by omega, rfl⟩
                      · skip
                        go_wp2_with fail
                        go_ret
                        exact ⟨⟨false, rfl, fun h => by cases h⟩, rfl⟩
                    · skip
                      go_wp2_with fail
                      go_ret
                      exact ⟨⟨false, rfl, fun h => by cases h⟩, rfl⟩
                  · skip
                    go_wp2_with fail
                    go_ret
                    exact ⟨⟨false, rfl, fun h => by cases h⟩, rfl⟩
                · skip
                  go_wp2_with fail
                  go_ret
                  exact ⟨⟨false, rfl, fun h => by cases h⟩, rfl⟩

              · have hki : ¬ (k : Int) < (ls.length : Int) := by omega
                clear hk hlt
                by_cases tS : (ss.length : Int) ≤ 1048576
                · skip
                  by_cases tS2 : r + (ss.length : Int) ≤ 1048576
                  · skip
                    go_wp2_with fail
                    go_loopg [13, 16] ss.length (fun g s t wr => ∃ (k : Nat) (r : Int), Hid (k + g = ss.length) ∧ t = .int .i64 k ∧ s = .int .i64 r ∧ 0 ≤ r ∧ r ≤ 1048576 ∧ w = wr)
                    case atStart => exact ⟨0, _, Nat.zero_add _, rfl, rfl, by omega, by omega, rfl⟩
                    case round =>
                      obtain ⟨k, r, hk, rfl, rfl, hr0, hr1, rfl⟩ := hrel
                      by_cases hlt : k < ss.length
                      · have hki : (k : Int) < (ss.length : Int) := by omega
                        obtain ⟨b, off, a1, n1, c1, rfl, hc, hl⟩ := HS.out k hlt
                        by_cases s1 : (n1 : Int) ≤ 1048576
                        · skip
                          by_cases s2 : r + (n1 : Int) ≤ 1048576
                          · skip
                            go_wp2_with fail
                            go_roundg (gk - 1)
                            case measure => have := hk.out; omega
                            case rel => exact ⟨k + 1, r + (n1 : Int), (by have := hk.out; show k + 1 + (gk - 1) = ss.length; omega), by go_num, by go_num, by omega, by omega, rfl⟩
                          · skip
                            go_wp2_with fail
                            go_ret
                            exact ⟨⟨false, rfl, fun h => by cases h⟩, rfl⟩
                        · skip
                          go_wp2_with fail
                          go_ret
                          exact ⟨⟨false, rfl, fun h => by cases h⟩, rfl⟩

                      · have hki : ¬ (k : Int) < (ss.length : Int) := by omega
                        clear hk hlt
                        go_wp2_with fail
                        go_ret
                        exact ⟨⟨true, rfl, fun _ => ⟨by omega, by omega, by omega⟩⟩, rfl⟩
                  · skip
                    go_wp2_with fail
                    go_ret
                    exact ⟨⟨false, rfl, fun h => by cases h⟩, rfl⟩
                · skip
                  go_wp2_with fail
                  go_ret
                  exact ⟨⟨false, rfl, fun h => by cases h⟩, rfl⟩
          · skip
            go_wp2_with fail
            go_ret
            exact ⟨⟨false, rfl, fun h => by cases h⟩, rfl⟩
        · skip
          go_wp2_with fail
          go_ret
          exact ⟨⟨false, rfl, fun h => by cases h⟩, rfl⟩

  · go_enter Try.func4, Try.ntmps4
    go_wp2_with fail
    go_ret
    exact ⟨⟨false, rfl, fun h => by cases h⟩, rfl⟩

end Go.Proofs.Qxb6617401a
