/-
  THE WALK of viewBytes: some count, nothing old turned.
-/
import Derived.Test.Qxb6617401aFind
namespace Go.Proofs.Qxb6617401a
open Go.RowKit

/-- Members lie in memory, three cells a member. -/
def RowM (w : World) (ao : Option Addr) (ms : List Mb) : Prop :=
  ∀ i, i < ms.length → ∃ b off, ao = some ⟨b, off, none⟩ ∧ w.cell? ⟨b, off + i * 3, none⟩ = some (.string (ms.getD i mb0).1) ∧ w.cell? ⟨b, off + i * 3 + 1, none⟩ = some (.string (ms.getD i mb0).2.1)
    ∧ w.cell? ⟨b, off + i * 3 + 1 + 1, none⟩ = some (.int .u64 (ms.getD i mb0).2.2) ∧ b < w.heap.size
theorem RowM.kept {w w' : World} {ao : Option Addr} {ms : List Mb} (h : RowM w ao ms) (hb : Below w.heap.size w w') : RowM w' ao ms := by
  intro i hi
  obtain ⟨b, off, e, h0, h1, h2, hlt⟩ := h i hi
  have k : ∀ o, w'.cell? ⟨b, o, none⟩ = w.cell? ⟨b, o, none⟩ := fun o => hb.cell (p := ⟨b, o, none⟩) hlt
  exact ⟨b, off, e, by rw [k]; exact h0, by rw [k]; exact h1, by rw [k]; exact h2, Nat.lt_of_lt_of_le hlt hb.size⟩

/-- Slices lie in memory, a cell each; 'ss' holds their lengths. -/
def RowS (w : World) (ao : Option Addr) (ss : List Nat) : Prop :=
  ∀ i, i < ss.length → ∃ b off a n c, ao = some ⟨b, off, none⟩ ∧ w.cell? ⟨b, off + i, none⟩ = some (.slice a n c) ∧ b < w.heap.size
theorem RowS.kept {w w' : World} {ao : Option Addr} {ss : List Nat} (h : RowS w ao ss) (hb : Below w.heap.size w w') : RowS w' ao ss := by
  intro i hi
  obtain ⟨b, off, a, n, c, e, h0, hlt⟩ := h i hi
  exact ⟨b, off, a, n, c, e, (hb.cell (p := ⟨b, off + i, none⟩) hlt).trans h0, Nat.lt_of_lt_of_le hlt hb.size⟩

set_option maxRecDepth 100000 in
set_option maxHeartbeats 8000000 in
theorem viewBytes_any (am al asb : Option Addr) (cm cl cs : Nat) (ms : List Mb) (ls : List Mk) (ss : List Nat) (w : World) (hm : RowM w am ms) (hl : RowL w al ls) (hs : RowS w asb ss) (nm : ms.length ≤ 1048576) (nl : ls.length ≤ 1048576) (ns : ss.length ≤ 1048576) :
    Calls Try.prog 5 #[.int .i64 0, .slice am ms.length cm, .slice al ls.length cl, .slice asb ss.length cs] w fun e w' => CountSays e ∧ Below w.heap.size w w' := by
  have HM : Hid (RowM w am ms) := hm
  have HLn : Hid (RowL w al ls) := hl
  have HS : Hid (RowS w asb ss) := hs
  clear hm hl hs
  have HB0 : Hid (Below w.heap.size w w) := Below.refl _ _
  go_enter Try.func5, Try.ntmps5
  go_wp2_with fail
  go_loopg [0, 9] ms.length (fun g s t wr => ∃ (k : Nat) (r : Int), Hid (k + g = ms.length) ∧ t = .int .i64 k ∧ s = .int .i64 r ∧ 0 ≤ r ∧ r ≤ 1048577 ∧ Hid (Below w.heap.size w wr))
  case atStart => exact ⟨0, _, Nat.zero_add _, rfl, rfl, by omega, by omega, HB0.out⟩
  case round =>
    obtain ⟨k, r, hk, rfl, rfl, hr0, hr1, hb⟩ := hrel
    clear HB0
    by_cases hlt : k < ms.length
    · by_cases hrb : r ≤ 1048576
      · have hki : (k : Int) < (ms.length : Int) := by omega
        obtain ⟨b, off, rfl, h1, h2, h3, hl⟩ := HM.out.kept hb.out k hlt
        generalize ms.getD k mb0 = z at h1 h2 h3
        obtain ⟨z2, z3, z4⟩ := z
        simp only at h1 h2 h3
        go_wp2_with fail
        refine (memberBytes_any r z2 z3 z4 _ hr0 hr1).mono ?_
        rintro e w2 ⟨⟨r2, rfl, q0, q1⟩, hb2⟩
        have HB2 : Hid (Below w.heap.size w w2) := hb.out.trans (hb2.mono hb.out.size)
        clear hb2
        go_wp2_with fail
        go_roundg (gk - 1)
        case measure => have := hk.out; omega
        case rel => exact ⟨k + 1, r2, (by have := hk.out; show k + 1 + (gk - 1) = ms.length; omega), by go_num, rfl, q0, q1, HB2.out⟩

      · have HB0 : Hid (Below w.heap.size w wr) := hb
        clear hb hk
        have hrb2 : decide (r ≤ 1048576) = false := decide_eq_false hrb
        go_wp2_with fail
        go_loopg [0, 10] ls.length (fun g s t wr => ∃ (k : Nat) (r : Int), Hid (k + g = ls.length) ∧ t = .int .i64 k ∧ s = .int .i64 r ∧ 0 ≤ r ∧ r ≤ 1048577 ∧ Hid (Below w.heap.size w wr))
        case atStart => exact ⟨0, _, Nat.zero_add _, rfl, rfl, by omega, by omega, HB0.out⟩
        case round =>
          obtain ⟨k, r, hk, rfl, rfl, hr0, hr1, hb⟩ := hrel
          clear HB0
          by_cases hlt : k < ls.length
          · by_cases hrb : r ≤ 1048576
            · have hki : (k : Int) < (ls.length : Int) := by omega
              obtain ⟨b, off, rfl, h0, h1, h2, h3, hl⟩ := HLn.out.kept hb.out k hlt
              generalize ls.getD k mk0 = z at h0 h1 h2 h3
              obtain ⟨z1, z2, z3, z4⟩ := z
              simp only at h0 h1 h2 h3
              go_wp2_with fail
              refine (addBytes_any r 8 _ hr0 hr1).mono ?_
              rintro e w' ⟨⟨r1, rfl, p0, p1⟩, rfl⟩
              go_wp2_with fail
              refine (memberBytes_any r1 z2 z3 z4 _ p0 p1).mono ?_
              rintro e w2 ⟨⟨r2, rfl, q0, q1⟩, hb2⟩
              have HB2 : Hid (Below w.heap.size w w2) := hb.out.trans (hb2.mono hb.out.size)
              clear hb2
              go_wp2_with fail
              go_roundg (gk - 1)
              case measure => have := hk.out; omega
              case rel => exact ⟨k + 1, r2, (by have := hk.out; show k + 1 + (gk - 1) = ls.length; omega), by go_num, rfl, q0, q1, HB2.out⟩

            · have HB0 : Hid (Below w.heap.size w wr) := hb
              clear hb hk
              have hrb2 : decide (r ≤ 1048576) = false := decide_eq_false hrb
              go_wp2_with fail
              go_loopg [0, 11] ss.length (fun g s t wr => ∃ (k : Nat) (r : Int), Hid (k + g = ss.length) ∧ t = .int .i64 k ∧ s = .int .i64 r ∧ 0 ≤ r ∧ r ≤ 1048577 ∧ Hid (Below w.heap.size w wr))
              case atStart => exact ⟨0, _, Nat.zero_add _, rfl, rfl, by omega, by omega, HB0.out⟩
              case round =>
                obtain ⟨k, r, hk, rfl, rfl, hr0, hr1, hb⟩ := hrel
                clear HB0
                by_cases hlt : k < ss.length
                · by_cases hrb : r ≤ 1048576
                  · have hki : (k : Int) < (ss.length : Int) := by omega
                    obtain ⟨b, off, a1, n1, c1, rfl, hc, hl⟩ := HS.out.kept hb.out k hlt
                    go_wp2_with fail
                    refine (addBytes_any r 8 _ hr0 hr1).mono ?_
                    rintro e w' ⟨⟨r1, rfl, p0, p1⟩, rfl⟩
                    go_wp2_with fail
                    refine (addWords_any r1 _ _ p0 p1).mono ?_
                    rintro e w' ⟨⟨r2, rfl, q0, q1⟩, rfl⟩
                    have HB2 : Hid (Below w.heap.size w wr) := hb
                    go_wp2_with fail
                    go_roundg (gk - 1)
                    case measure => have := hk.out; omega
                    case rel => exact ⟨k + 1, r2, (by have := hk.out; show k + 1 + (gk - 1) = ss.length; omega), by go_num, rfl, q0, q1, HB2.out⟩

                  · have HB0 : Hid (Below w.heap.size w wr) := hb
                    clear hb hk
                    have hrb2 : decide (r ≤ 1048576) = false := decide_eq_false hrb
                    go_wp2_with fail
                    go_ret
                    exact ⟨⟨r, rfl, hr0, hr1⟩, HB0.out⟩

                · have HB0 : Hid (Below w.heap.size w wr) := hb
                  clear hb hk
                  have hki : decide ((k : Int) < (ss.length : Int)) = false := decide_eq_false (by omega)
                  go_wp2_with fail
                  go_ret
                  exact ⟨⟨r, rfl, hr0, hr1⟩, HB0.out⟩

          · have HB0 : Hid (Below w.heap.size w wr) := hb
            clear hb hk
            have hki : decide ((k : Int) < (ls.length : Int)) = false := decide_eq_false (by omega)
            go_wp2_with fail
            go_loopg [0, 11] ss.length (fun g s t wr => ∃ (k : Nat) (r : Int), Hid (k + g = ss.length) ∧ t = .int .i64 k ∧ s = .int .i64 r ∧ 0 ≤ r ∧ r ≤ 1048577 ∧ Hid (Below w.heap.size w wr))
            case atStart => exact ⟨0, _, Nat.zero_add _, rfl, rfl, by omega, by omega, HB0.out⟩
            case round =>
              obtain ⟨k, r, hk, rfl, rfl, hr0, hr1, hb⟩ := hrel
              clear HB0
              by_cases hlt : k < ss.length
              · by_cases hrb : r ≤ 1048576
                · have hki : (k : Int) < (ss.length : Int) := by omega
                  obtain ⟨b, off, a1, n1, c1, rfl, hc, hl⟩ := HS.out.kept hb.out k hlt
                  go_wp2_with fail
                  refine (addBytes_any r 8 _ hr0 hr1).mono ?_
                  rintro e w' ⟨⟨r1, rfl, p0, p1⟩, rfl⟩
                  go_wp2_with fail
                  refine (addWords_any r1 _ _ p0 p1).mono ?_
                  rintro e w' ⟨⟨r2, rfl, q0, q1⟩, rfl⟩
                  have HB2 : Hid (Below w.heap.size w wr) := hb
                  go_wp2_with fail
                  go_roundg (gk - 1)
                  case measure => have := hk.out; omega
                  case rel => exact ⟨k + 1, r2, (by have := hk.out; show k + 1 + (gk - 1) = ss.length; omega), by go_num, rfl, q0, q1, HB2.out⟩

                · have HB0 : Hid (Below w.heap.size w wr) := hb
                  clear hb hk
                  have hrb2 : decide (r ≤ 1048576) = false := decide_eq_false hrb
                  go_wp2_with fail
                  go_ret
                  exact ⟨⟨r, rfl, hr0, hr1⟩, HB0.out⟩

              · have HB0 : Hid (Below w.heap.size w wr) := hb
                clear hb hk
                have hki : decide ((k : Int) < (ss.length : Int)) = false := decide_eq_false (by omega)
                go_wp2_with fail
                go_ret
                exact ⟨⟨r, rfl, hr0, hr1⟩, HB0.out⟩

    · have HB0 : Hid (Below w.heap.size w wr) := hb
      clear hb hk
      have hki : decide ((k : Int) < (ms.length : Int)) = false := decide_eq_false (by omega)
      go_wp2_with fail
      go_loopg [0, 10] ls.length (fun g s t wr => ∃ (k : Nat) (r : Int), Hid (k + g = ls.length) ∧ t = .int .i64 k ∧ s = .int .i64 r ∧ 0 ≤ r ∧ r ≤ 1048577 ∧ Hid (Below w.heap.size w wr))
      case atStart => exact ⟨0, _, Nat.zero_add _, rfl, rfl, by omega, by omega, HB0.out⟩
      case round =>
        obtain ⟨k, r, hk, rfl, rfl, hr0, hr1, hb⟩ := hrel
        clear HB0
        by_cases hlt : k < ls.length
        · by_cases hrb : r ≤ 1048576
          · have hki : (k : Int) < (ls.length : Int) := by omega
            obtain ⟨b, off, rfl, h0, h1, h2, h3, hl⟩ := HLn.out.kept hb.out k hlt
            generalize ls.getD k mk0 = z at h0 h1 h2 h3
            obtain ⟨z1, z2, z3, z4⟩ := z
            simp only at h0 h1 h2 h3
            go_wp2_with fail
            refine (addBytes_any r 8 _ hr0 hr1).mono ?_
            rintro e w' ⟨⟨r1, rfl, p0, p1⟩, rfl⟩
            go_wp2_with fail
            refine (memberBytes_any r1 z2 z3 z4 _ p0 p1).mono ?_
            rintro e w2 ⟨⟨r2, rfl, q0, q1⟩, hb2⟩
            have HB2 : Hid (Below w.heap.size w w2) := hb.out.trans (hb2.mono hb.out.size)
            clear hb2
            go_wp2_with fail
            go_roundg (gk - 1)
            case measure => have := hk.out; omega
            case rel => exact ⟨k + 1, r2, (by have := hk.out; show k + 1 + (gk - 1) = ls.length; omega), by go_num, rfl, q0, q1, HB2.out⟩

          · have HB0 : Hid (Below w.heap.size w wr) := hb
            clear hb hk
            have hrb2 : decide (r ≤ 1048576) = false := decide_eq_false hrb
            go_wp2_with fail
            go_loopg [0, 11] ss.length (fun g s t wr => ∃ (k : Nat) (r : Int), Hid (k + g = ss.length) ∧ t = .int .i64 k ∧ s = .int .i64 r ∧ 0 ≤ r ∧ r ≤ 1048577 ∧ Hid (Below w.heap.size w wr))
            case atStart => exact ⟨0, _, Nat.zero_add _, rfl, rfl, by omega, by omega, HB0.out⟩
            case round =>
              obtain ⟨k, r, hk, rfl, rfl, hr0, hr1, hb⟩ := hrel
              clear HB0
              by_cases hlt : k < ss.length
              · by_cases hrb : r ≤ 1048576
                · have hki : (k : Int) < (ss.length : Int) := by omega
                  obtain ⟨b, off, a1, n1, c1, rfl, hc, hl⟩ := HS.out.kept hb.out k hlt
                  go_wp2_with fail
                  refine (addBytes_any r 8 _ hr0 hr1).mono ?_
                  rintro e w' ⟨⟨r1, rfl, p0, p1⟩, rfl⟩
                  go_wp2_with fail
                  refine (addWords_any r1 _ _ p0 p1).mono ?_
                  rintro e w' ⟨⟨r2, rfl, q0, q1⟩, rfl⟩
                  have HB2 : Hid (Below w.heap.size w wr) := hb
                  go_wp2_with fail
                  go_roundg (gk - 1)
                  case measure => have := hk.out; omega
                  case rel => exact ⟨k + 1, r2, (by have := hk.out; show k + 1 + (gk - 1) = ss.length; omega), by go_num, rfl, q0, q1, HB2.out⟩

                · have HB0 : Hid (Below w.heap.size w wr) := hb
                  clear hb hk
                  have hrb2 : decide (r ≤ 1048576) = false := decide_eq_false hrb
                  go_wp2_with fail
                  go_ret
                  exact ⟨⟨r, rfl, hr0, hr1⟩, HB0.out⟩

              · have HB0 : Hid (Below w.heap.size w wr) := hb
                clear hb hk
                have hki : decide ((k : Int) < (ss.length : Int)) = false := decide_eq_false (by omega)
                go_wp2_with fail
                go_ret
                exact ⟨⟨r, rfl, hr0, hr1⟩, HB0.out⟩

        · have HB0 : Hid (Below w.heap.size w wr) := hb
          clear hb hk
          have hki : decide ((k : Int) < (ls.length : Int)) = false := decide_eq_false (by omega)
          go_wp2_with fail
          go_loopg [0, 11] ss.length (fun g s t wr => ∃ (k : Nat) (r : Int), Hid (k + g = ss.length) ∧ t = .int .i64 k ∧ s = .int .i64 r ∧ 0 ≤ r ∧ r ≤ 1048577 ∧ Hid (Below w.heap.size w wr))
          case atStart => exact ⟨0, _, Nat.zero_add _, rfl, rfl, by omega, by omega, HB0.out⟩
          case round =>
            obtain ⟨k, r, hk, rfl, rfl, hr0, hr1, hb⟩ := hrel
            clear HB0
            by_cases hlt : k < ss.length
            · by_cases hrb : r ≤ 1048576
              · have hki : (k : Int) < (ss.length : Int) := by omega
                obtain ⟨b, off, a1, n1, c1, rfl, hc, hl⟩ := HS.out.kept hb.out k hlt
                go_wp2_with fail
                refine (addBytes_any r 8 _ hr0 hr1).mono ?_
                rintro e w' ⟨⟨r1, rfl, p0, p1⟩, rfl⟩
                go_wp2_with fail
                refine (addWords_any r1 _ _ p0 p1).mono ?_
                rintro e w' ⟨⟨r2, rfl, q0, q1⟩, rfl⟩
                have HB2 : Hid (Below w.heap.size w wr) := hb
                go_wp2_with fail
                go_roundg (gk - 1)
                case measure => have := hk.out; omega
                case rel => exact ⟨k + 1, r2, (by have := hk.out; show k + 1 + (gk - 1) = ss.length; omega), by go_num, rfl, q0, q1, HB2.out⟩

              · have HB0 : Hid (Below w.heap.size w wr) := hb
                clear hb hk
                have hrb2 : decide (r ≤ 1048576) = false := decide_eq_false hrb
                go_wp2_with fail
                go_ret
                exact ⟨⟨r, rfl, hr0, hr1⟩, HB0.out⟩

            · have HB0 : Hid (Below w.heap.size w wr) := hb
              clear hb hk
              have hki : decide ((k : Int) < (ss.length : Int)) = false := decide_eq_false (by omega)
              go_wp2_with fail
              go_ret
              exact ⟨⟨r, rfl, hr0, hr1⟩, HB0.out⟩

end Go.Proofs.Qxb6617401a
