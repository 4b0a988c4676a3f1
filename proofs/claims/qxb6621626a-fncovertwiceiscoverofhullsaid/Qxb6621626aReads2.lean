/-
  THE WALKS of eqI64 (at two equal rows) and of sameValue (at two sums of one value).
-/
import Derived.Test.Qxb6621626aReads
namespace Go.Proofs.Qxb6621626a
open Go.RowKit

theorem Row.drewN {k : IntKind} {w : World} {ao : Option Addr} {xs : List Int} (h : Row k w ao xs) (n : Nat) : Row k (w.drewN n) ao xs := h.kept (below_drewN (Below.refl _ _) n)

set_option maxHeartbeats 1000000 in
theorem eq_true (xs : List Int) (ao1 ao2 : Option Addr) (c1 c2 : Nat) (w : World) (h1 : Row .i64 w ao1 xs) (h2 : Row .i64 w ao2 xs) (hn : xs.length ≤ 1000000000) :
    Calls Try.prog 17 #[.slice ao1 xs.length c1, .slice ao2 xs.length c2] w fun e w' => e = .returned (.bool true) ∧ ∃ n, w' = w.drewN n := by
  go_enter Try.func17, Try.ntmps17
  go_wp2
  go_loopw [5] (fun i wr => ∃ (k m : Nat), k ≤ xs.length ∧ i = .int .i64 k ∧ wr = w.drewN m) (fun i _ => xs.length - (intOf i).toNat)
  case atStart => exact ⟨0, 0, Nat.zero_le _, rfl, rfl⟩
  case round =>
    obtain ⟨k, m, hk, rfl, rfl⟩ := hrel
    by_cases hlt : k < xs.length
    · obtain ⟨b, off, rfl, hc⟩ := h1 k hlt
      obtain ⟨b', off', rfl, hc'⟩ := h2 k hlt
      clear h1 h2
      generalize hz : xs.getD k 0 = z at hc hc'
      clear hz
      have hl : (k : Int) < (xs.length : Int) := by omega
      go_wp2
      go_quiet (fail)
      go_wp2
      go_roundw
      case rel => exact ⟨k + 1, _, by omega, by go_num, rfl⟩
      case measure => simp [intOf]; omega
    · go_wp2
      go_ret
      exact ⟨rfl, _, rfl⟩

/-- The digit of a carried sum is small. -/
theorem dig_bound (xs : List Int) (low w : Int) (h : Carried xs) : -2147483648 ≤ dig xs low w ∧ dig xs low w ≤ 4294967295 := by
  unfold dig
  split
  · omega
  · by_cases hl : (w - low).toNat < xs.length
    · have := h _ hl
      by_cases e : (w - low).toNat + 1 < xs.length
      · have := this.1 e; omega
      · have := this.2 (by omega); omega
    · rw [List.getD_eq_getElem?_getD, List.getElem?_eq_none (by omega)]
      simp

set_option maxHeartbeats 2000000 in
/-- The loop of sameValue, both ways in. -/
theorem same_true (xs ys : List Int) (ao bo : Option Addr) (ca cb : Nat) (al bl : Int) (w : World) (h1 : Row .i64 w ao xs) (h2 : Row .i64 w bo ys) (hx : Carried xs) (hy : Carried ys) (hs : Same xs al ys bl)
    (hn : xs.length ≤ 10000000) (hm : ys.length ≤ 10000000) (a1 : -10000000 ≤ al) (a2 : al ≤ 10000000) (b1 : -10000000 ≤ bl) (b2 : bl ≤ 10000000) (hc : xs.length = 0 ∨ (bl ≤ al ∧ al + xs.length ≤ bl + ys.length)) :
    Calls Try.prog 15 #[.slice ao xs.length ca, .int .i64 al, .slice bo ys.length cb, .int .i64 bl] w fun e w' => e = .returned (.bool true) ∧ w = w' := by
  obtain ⟨c, c01, clow, chigh, ceq⟩ := hs
  have HC : Hid ((∀ w, c w = 0 ∨ c w = 1) ∧ (∀ w, w ≤ bl → c w = 0) ∧ (∀ w, bl + ys.length ≤ w → c w = 0) ∧ ∀ w, dig ys bl w - dig xs al w + c w = 4294967296 * c (w + 1)) := ⟨c01, clow, chigh, ceq⟩
  clear c01 clow chigh ceq
  by_cases hy0 : ys.length = 0
  · have hx0 : xs.length = 0 := by omega
    obtain rfl : xs = [] := List.eq_nil_of_length_eq_zero hx0
    obtain rfl : ys = [] := List.eq_nil_of_length_eq_zero hy0
    go_enter Try.func15, Try.ntmps15
    go_wp2
    go_ret
    exact ⟨rfl, rfl⟩
  · have e2 : ((ys.length : Int) == 0) = false := by rw [beq_eq_false_iff_ne]; omega
    by_cases hx0 : xs.length = 0
    · obtain rfl : xs = [] := List.eq_nil_of_length_eq_zero hx0
      clear hx0 hc
      go_enter Try.func15, Try.ntmps15
      go_wp2_with fail
      go_loop [11, 12] (fun s t => ∃ k : Int, bl ≤ k ∧ k ≤ bl + ys.length ∧ t = .int .i64 k ∧ s = .int .i64 (c k)) (fun _ t => (bl + ys.length - intOf t).toNat)
      case atStart => exact ⟨bl, by omega, by omega, rfl, by rw [HC.out.2.1 bl (Int.le_refl _)]⟩
      case round =>
        obtain ⟨k, hk1, hk2, rfl, rfl⟩ := hrel
        by_cases hlt : k < bl + ys.length
        · have hd1 := dig_bound ys bl k hy
          have hd2 := dig_bound [] al k hx
          have hr := HC.out.1 k
          have hr1 := HC.out.1 (k + 1)
          have he := HC.out.2.2.2 k
          have D1 : ∀ w', Row .i64 w' bo ys → Calls Try.prog 36 #[.slice bo ys.length cb, .int .i64 bl, .int .i64 k] w' fun e w'' => e = .returned (.int .i64 (dig ys bl k)) ∧ w' = w'' := fun w' h => digit_any ys bo cb bl k w' h (by omega) (by omega) (by omega) (by omega) (by omega)
          have D2 : ∀ w', Row .i64 w' ao [] → Calls Try.prog 36 #[.slice ao 0 ca, .int .i64 al, .int .i64 k] w' fun e w'' => e = .returned (.int .i64 (dig [] al k)) ∧ w' = w'' := fun w' h => digit_any [] ao ca al k w' h (by simp) (by omega) (by omega) (by omega) (by omega)
          have HR : Hid (c (k + 1) = 0 ∨ c (k + 1) = 1) := hr1
          obtain ⟨r, HRE⟩ : ∃ r, Hid (c (k + 1) = r) := ⟨_, rfl⟩
          rw [HRE.out] at he hr1
          generalize dig ys bl k = p at *
          generalize dig [] al k = q at *
          obtain ⟨g, HG⟩ : ∃ g, Hid (c k = g) := ⟨_, rfl⟩
          rw [HG.out] at he hr ⊢
          have D1' : Hid _ := D1
          have D2' : Hid _ := D2
          clear D1 D2
          have hg0 : 0 ≤ g := by omega
          have hg1 : g ≤ 1 := by omega
          clear hr HR
          rcases hr1 with rfl | rfl
          · have he' : p - q + g = 0 := by omega
            clear he
            have HE : Hid (p - q + g = 0) := he'
            clear he'
            go_wp2_with fail
            refine (D1'.out _ h2).mono ?_
            rintro e w' ⟨rfl, rfl⟩
            go_wp2_with fail
            refine (D2'.out _ h1).mono ?_
            rintro e w' ⟨rfl, rfl⟩
            have he := HE.out
            go_wp2_with fail
            go_round
            case rel => exact ⟨k + 1, by omega, by omega, rfl, by rw [HRE.out]⟩
            case measure => simp [intOf]; omega
          · have HE : Hid (p - q + g = 4294967296) := by show p - q + g = 4294967296; omega
            clear he
            go_wp2_with fail
            refine (D1'.out _ h2).mono ?_
            rintro e w' ⟨rfl, rfl⟩
            go_wp2_with fail
            refine (D2'.out _ h1).mono ?_
            rintro e w' ⟨rfl, rfl⟩
            have he := HE.out
            go_wp2_with fail
            go_round
            case rel => exact ⟨k + 1, by omega, by omega, rfl, by rw [HRE.out]⟩
            case measure => simp [intOf]; omega
        · have hz : c k = 0 := HC.out.2.2.1 k (by omega)
          rw [hz]
          clear hz
          go_wp2_with fail
          go_ret
          exact ⟨rfl, rfl⟩
    · have e1 : ((xs.length : Int) == 0) = false := by rw [beq_eq_false_iff_ne]; omega
      have e3 : (0 : Int) < xs.length := by omega
      have m1 : min al bl = bl := by omega
      have m2 : max (al + xs.length) (bl + ys.length) = bl + ys.length := by omega
      have M : Hid (min al bl = bl ∧ max (al + (xs.length : Int)) (bl + ys.length) = bl + ys.length) := ⟨m1, m2⟩
      clear m1 m2
      go_enter Try.func15, Try.ntmps15
      go_wp2_with fail
      refine (min_any _ _ _).mono ?_
      rintro e w' ⟨rfl, rfl⟩
      rw [M.out.1]
      go_wp2_with fail
      refine (max_any _ _ _).mono ?_
      rintro e w' ⟨rfl, rfl⟩
      rw [M.out.2]
      go_wp2_with fail
      go_loop [11, 12] (fun s t => ∃ k : Int, bl ≤ k ∧ k ≤ bl + ys.length ∧ t = .int .i64 k ∧ s = .int .i64 (c k)) (fun _ t => (bl + ys.length - intOf t).toNat)
      case atStart => exact ⟨bl, by omega, by omega, rfl, by rw [HC.out.2.1 bl (Int.le_refl _)]⟩
      case round =>
        obtain ⟨k, hk1, hk2, rfl, rfl⟩ := hrel
        by_cases hlt : k < bl + ys.length
        · have hd1 := dig_bound ys bl k hy
          have hd2 := dig_bound xs al k hx
          have hr := HC.out.1 k
          have hr1 := HC.out.1 (k + 1)
          have he := HC.out.2.2.2 k
          have D1 : ∀ w', Row .i64 w' bo ys → Calls Try.prog 36 #[.slice bo ys.length cb, .int .i64 bl, .int .i64 k] w' fun e w'' => e = .returned (.int .i64 (dig ys bl k)) ∧ w' = w'' := fun w' h => digit_any ys bo cb bl k w' h (by omega) (by omega) (by omega) (by omega) (by omega)
          have D2 : ∀ w', Row .i64 w' ao xs → Calls Try.prog 36 #[.slice ao xs.length ca, .int .i64 al, .int .i64 k] w' fun e w'' => e = .returned (.int .i64 (dig xs al k)) ∧ w' = w'' := fun w' h => digit_any xs ao ca al k w' h (by omega) (by omega) (by omega) (by omega) (by omega)
          have HR : Hid (c (k + 1) = 0 ∨ c (k + 1) = 1) := hr1
          obtain ⟨r, HRE⟩ : ∃ r, Hid (c (k + 1) = r) := ⟨_, rfl⟩
          rw [HRE.out] at he hr1
          generalize dig ys bl k = p at *
          generalize dig xs al k = q at *
          obtain ⟨g, HG⟩ : ∃ g, Hid (c k = g) := ⟨_, rfl⟩
          rw [HG.out] at he hr ⊢
          have D1' : Hid _ := D1
          have D2' : Hid _ := D2
          clear D1 D2
          have hg0 : 0 ≤ g := by omega
          have hg1 : g ≤ 1 := by omega
          clear hr HR
          rcases hr1 with rfl | rfl
          · have he' : p - q + g = 0 := by omega
            clear he
            have HE : Hid (p - q + g = 0) := he'
            clear he'
            go_wp2_with fail
            refine (D1'.out _ h2).mono ?_
            rintro e w' ⟨rfl, rfl⟩
            go_wp2_with fail
            refine (D2'.out _ h1).mono ?_
            rintro e w' ⟨rfl, rfl⟩
            have he := HE.out
            go_wp2_with fail
            go_round
            case rel => exact ⟨k + 1, by omega, by omega, rfl, by rw [HRE.out]⟩
            case measure => simp [intOf]; omega
          · have HE : Hid (p - q + g = 4294967296) := by show p - q + g = 4294967296; omega
            clear he
            go_wp2_with fail
            refine (D1'.out _ h2).mono ?_
            rintro e w' ⟨rfl, rfl⟩
            go_wp2_with fail
            refine (D2'.out _ h1).mono ?_
            rintro e w' ⟨rfl, rfl⟩
            have he := HE.out
            go_wp2_with fail
            go_round
            case rel => exact ⟨k + 1, by omega, by omega, rfl, by rw [HRE.out]⟩
            case measure => simp [intOf]; omega
        · have hz : c k = 0 := HC.out.2.2.1 k (by omega)
          rw [hz]
          clear hz
          go_wp2_with fail
          go_ret
          exact ⟨rfl, rfl⟩

end Go.Proofs.Qxb6621626a
