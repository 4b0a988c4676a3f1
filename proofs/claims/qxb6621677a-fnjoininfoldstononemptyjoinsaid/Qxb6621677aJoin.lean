/-
  THE WALKS OF joinIn, b1JoinNonEmpty and their guard, each by a contract over a plain function on byte strings.
-/
import Derived.Test.Qxb6621677aRows
import Derived.WalkKit
import Derived.WalkSpells
namespace Go.Proofs.Qxb6621677a
open Go.RowKit

/-- joinIn -/
def jn (a b : ByteArray) : ByteArray := if a.toList.isEmpty = true then b else if b.toList.isEmpty = true then a else a ++ ⟨#[44, 32]⟩ ++ b

theorem isEmpty_size (a : ByteArray) : a.toList.isEmpty = decide (a.size = 0) := by
  have e : a.toList.length = a.size := by rw [Go.ByteArray.toList_eq]; rfl
  rw [Bool.eq_iff_iff, List.isEmpty_iff, ← List.length_eq_zero_iff, e]
  simp

theorem empty_of (a : ByteArray) (h : a.toList.isEmpty = true) : a = ⟨#[]⟩ := by
  rw [isEmpty_size] at h
  simp at h
  exact h

theorem jn_size (a b : ByteArray) : (jn a b).size ≤ a.size + b.size + 2 := by
  unfold jn
  split
  · omega
  · split
    · omega
    · simp [ByteArray.size_append]
      have : (ByteArray.mk #[44, 32]).size = 2 := rfl
      omega

theorem jn_nil_left (a b : ByteArray) (h : a.toList.isEmpty = true) : jn a b = b := by simp [jn, h]
theorem jn_nil_right (a b : ByteArray) (h : b.toList.isEmpty = true) : jn a b = a := by
  by_cases ha : a.toList.isEmpty = true
  · rw [jn_nil_left a b ha, empty_of a ha, empty_of b h]
  · simp [jn, ha, h]
theorem jn_full (a b : ByteArray) (ha : a.toList.isEmpty = false) (hb : b.toList.isEmpty = false) : jn a b = a ++ ⟨#[44, 32]⟩ ++ b := by simp [jn, ha, hb]
theorem jn_full_ne (a b : ByteArray) (ha : a.toList.isEmpty = false) (hb : b.toList.isEmpty = false) : (jn a b).toList.isEmpty = false := by
  rw [jn_full a b ha hb, isEmpty_size]
  rw [isEmpty_size] at ha
  simp only [decide_eq_false_iff_not] at ha ⊢
  simp only [ByteArray.size_append]
  omega

/-- THE PLAIN LAW: joining is associative. -/
theorem jn_assoc (a b c : ByteArray) : jn a (jn b c) = jn (jn a b) c := by
  by_cases ha : a.toList.isEmpty = true
  · rw [jn_nil_left _ _ ha, jn_nil_left _ _ ha]
  · have ha' : a.toList.isEmpty = false := by simpa using ha
    by_cases hb : b.toList.isEmpty = true
    · rw [jn_nil_left b _ hb, jn_nil_right a _ hb]
    · have hb' : b.toList.isEmpty = false := by simpa using hb
      by_cases hc : c.toList.isEmpty = true
      · rw [jn_nil_right _ _ hc, jn_nil_right _ _ hc]
      · have hc' : c.toList.isEmpty = false := by simpa using hc
        rw [jn_full a _ ha' (jn_full_ne b c hb' hc'), jn_full b c hb' hc', jn_full (jn a b) c (jn_full_ne a b ha' hb') hc', jn_full a b ha' hb']
        simp [ByteArray.append_assoc]

set_option maxHeartbeats 400000 in
theorem joinIn_any (a b : ByteArray) (w : World) (h : a.size + b.size ≤ 1000000000) :
    Calls Try.prog 16 #[.string a, .string b] w fun e w' => e = .returned (.string (jn a b)) ∧ w = w' := by
  by_cases ha : a.toList.isEmpty = true
  · go_enter Try.func16, Try.ntmps16
    go_wp2
    go_ret
    exact ⟨by simp [jn, ha], rfl⟩
  · have ha' : a.toList.isEmpty = false := by simpa using ha
    by_cases hb : b.toList.isEmpty = true
    · go_enter Try.func16, Try.ntmps16
      go_wp2
      go_ret
      exact ⟨by simp [jn, ha', hb], rfl⟩
    · have hb' : b.toList.isEmpty = false := by simpa using hb
      go_enter Try.func16, Try.ntmps16
      go_wp2
      go_ret
      exact ⟨by simp [jn, ha', hb'], rfl⟩

theorem zzJoin_any (a b : ByteArray) (w : World) (h : a.size + b.size ≤ 1000000000) :
    Calls Try.prog 7 #[.string a, .string b] w fun e w' => e = .returned (.string (jn a b)) ∧ w = w' := by
  go_enter Try.func7, Try.ntmps7
  go_wp2_with (go_at_call 16; refine (joinIn_any a b _ h).mono ?_; rintro e w' ⟨rfl, rfl⟩)
  go_ret
  exact ⟨rfl, rfl⟩

theorem isEmpty_mk : (ByteArray.mk #[]).toList.isEmpty = true := by rw [isEmpty_size]; rfl
theorem nil_app (b : ByteArray) : ByteArray.mk #[] ++ b = b := ByteArray.empty_append

set_option maxHeartbeats 1000000 in
/-- b1JoinNonEmpty: it is joinIn, nested to the left. -/
theorem nonEmpty_any (a b c : ByteArray) (w : World) (h : a.size + b.size + c.size ≤ 1000000000) :
    Calls Try.prog 8 #[.string a, .string b, .string c] w fun e w' => e = .returned (.string (jn (jn a b) c)) ∧ w = w' := by
  by_cases ha : a.toList.isEmpty = true
  · rw [jn_nil_left a b ha]
    by_cases hb : b.toList.isEmpty = true
    · rw [jn_nil_left b c hb]
      by_cases hc : c.toList.isEmpty = true
      · go_enter Try.func8, Try.ntmps8
        go_wp2
        go_ret
        exact ⟨by rw [empty_of c hc]; rfl, rfl⟩
      · have hc' : c.toList.isEmpty = false := by simpa using hc
        go_enter Try.func8, Try.ntmps8
        go_wp2
        go_ret
        exact ⟨rfl, rfl⟩
    · have hb' : b.toList.isEmpty = false := by simpa using hb
      by_cases hc : c.toList.isEmpty = true
      · rw [jn_nil_right _ _ hc]
        go_enter Try.func8, Try.ntmps8
        go_wp2
        go_ret
        exact ⟨rfl, rfl⟩
      · have hc' : c.toList.isEmpty = false := by simpa using hc
        rw [jn_full b c hb' hc']
        have e := nil_app b
        have e' : (ByteArray.mk #[] ++ b).toList.isEmpty = false := by rw [e]; exact hb'
        clear e
        go_enter Try.func8, Try.ntmps8
        go_wp2
        go_ret
        exact ⟨rfl, rfl⟩
  · have ha' : a.toList.isEmpty = false := by simpa using ha
    by_cases hb : b.toList.isEmpty = true
    · rw [jn_nil_right a b hb]
      by_cases hc : c.toList.isEmpty = true
      · rw [jn_nil_right a c hc]
        go_enter Try.func8, Try.ntmps8
        go_wp2
        go_ret
        exact ⟨rfl, rfl⟩
      · have hc' : c.toList.isEmpty = false := by simpa using hc
        rw [jn_full a c ha' hc']
        go_enter Try.func8, Try.ntmps8
        go_wp2
        go_ret
        exact ⟨rfl, rfl⟩
    · have hb' : b.toList.isEmpty = false := by simpa using hb
      have hne := jn_full_ne a b ha' hb'
      rw [jn_full a b ha' hb'] at hne ⊢
      by_cases hc : c.toList.isEmpty = true
      · rw [jn_nil_right _ c hc]
        go_enter Try.func8, Try.ntmps8
        go_wp2
        go_ret
        exact ⟨rfl, rfl⟩
      · have hc' : c.toList.isEmpty = false := by simpa using hc
        rw [jn_full _ c hne hc']
        go_enter Try.func8, Try.ntmps8
        go_wp2
        go_ret
        exact ⟨rfl, rfl⟩

set_option maxHeartbeats 1000000 in
/-- The guard: it answers a bool and turns nothing. -/
theorem bytesJoin_any (a b c : ByteArray) (w : World) (ha : a.size ≤ maxLen) (hb : b.size ≤ maxLen) (hc : c.size ≤ maxLen) :
    Calls Try.prog 6 #[.string a, .string b, .string c] w fun e w' => (∃ g : Bool, e = .returned (.bool g)) ∧ w = w' := by
  unfold maxLen at ha hb hc
  go_enter Try.func6, Try.ntmps6
  go_wp2
  all_goals (go_ret; exact ⟨⟨_, rfl⟩, rfl⟩)

end Go.Proofs.Qxb6621677a
