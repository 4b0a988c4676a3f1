/-
  THE PLAIN LAW of keySet.add, continued: the set as a word and a list of words.
-/
import Derived.Test.Qxb6621677aBits
namespace Go.Proofs.Qxb6621677a

def pad (ms : List Int) (n : Nat) : List Int := ms ++ List.replicate (n - ms.length) 0
def addF (f : Int) (i : Nat) : Int := if i < 64 then orb f i else f
def addM (ms : List Int) (i : Nat) : List Int := if i < 64 then ms else (pad ms (i / 64)).set (i / 64 - 1) (orb ((pad ms (i / 64)).getD (i / 64 - 1) 0) (i % 64))
def word (f : Int) (ms : List Int) (q : Nat) : Int := if q = 0 then f else ms.getD (q - 1) 0
def has (f : Int) (ms : List Int) (p : Nat) : Bool := tst (word f ms (p / 64)) (p % 64)

theorem pad_length (ms : List Int) (n : Nat) : (pad ms n).length = max ms.length n := by simp [pad]; omega
theorem pad_getD (ms : List Int) (n k : Nat) : (pad ms n).getD k 0 = ms.getD k 0 := by
  unfold pad
  rw [List.getD_eq_getElem?_getD, List.getElem?_append]
  split
  · rw [List.getD_eq_getElem?_getD]
  · rename_i h
    have e : ms[k]? = none := List.getElem?_eq_none (by omega)
    rw [List.getD_eq_getElem?_getD, e, List.getElem?_replicate]
    split <;> rfl

theorem addM_length (ms : List Int) (i : Nat) : (addM ms i).length = max ms.length (i / 64) := by
  unfold addM
  split
  · omega
  · rw [List.length_set, pad_length]

theorem addM_getD (ms : List Int) (i k : Nat) : (addM ms i).getD k 0 = if 64 ≤ i ∧ k + 1 = i / 64 then orb (ms.getD k 0) (i % 64) else ms.getD k 0 := by
  unfold addM
  by_cases h : i < 64
  · rw [if_pos h, if_neg (by omega)]
  · rw [if_neg h, List.getD_eq_getElem?_getD, List.getElem?_set]
    by_cases hk : i / 64 - 1 = k
    · rw [if_pos hk, if_pos (by rw [pad_length]; omega), if_pos (by omega), pad_getD, hk]
      rfl
    · rw [if_neg hk, if_neg (by omega), ← List.getD_eq_getElem?_getD, pad_getD]

theorem ext_getD (xs ys : List Int) (h1 : xs.length = ys.length) (h2 : ∀ k, xs.getD k 0 = ys.getD k 0) : xs = ys := by
  apply List.ext_getElem h1
  intro k ha hb
  have := h2 k
  rw [List.getD_eq_getElem?_getD, List.getD_eq_getElem?_getD, List.getElem?_eq_getElem ha, List.getElem?_eq_getElem hb] at this
  simpa using this

theorem addF_comm (f : Int) (i j : Nat) : addF (addF f i) j = addF (addF f j) i := by
  unfold addF
  by_cases hi : i < 64 <;> by_cases hj : j < 64 <;> simp [hi, hj, orb_comm f i j]

theorem addM_comm (ms : List Int) (i j : Nat) : addM (addM ms i) j = addM (addM ms j) i := by
  apply ext_getD
  · rw [addM_length, addM_length, addM_length, addM_length]; omega
  · intro k
    rw [addM_getD, addM_getD, addM_getD, addM_getD]
    by_cases hi : 64 ≤ i ∧ k + 1 = i / 64
    · rw [if_pos hi]
      by_cases hj : 64 ≤ j ∧ k + 1 = j / 64
      · rw [if_pos hj, if_pos hi, if_pos hj]; exact orb_comm _ _ _
      · rw [if_neg hj, if_pos hi, if_neg hj]
    · rw [if_neg hi]
      by_cases hj : 64 ≤ j ∧ k + 1 = j / 64
      · rw [if_pos hj, if_neg hi]
      · rw [if_neg hj, if_neg hi]

theorem addF_idem (f : Int) (i : Nat) : addF (addF f i) i = addF f i := by
  unfold addF
  by_cases hi : i < 64 <;> simp [hi, orb_orb]

theorem addM_idem (ms : List Int) (i : Nat) : addM (addM ms i) i = addM ms i := by
  apply ext_getD
  · rw [addM_length, addM_length]; omega
  · intro k
    rw [addM_getD, addM_getD]
    split
    · exact orb_orb _ _
    · rfl

theorem word_add (f : Int) (ms : List Int) (i q : Nat) : word (addF f i) (addM ms i) q = if q = i / 64 then orb (word f ms q) (i % 64) else word f ms q := by
  unfold word
  by_cases hq : q = 0
  · subst hq
    rw [if_pos rfl, if_pos rfl, addF]
    by_cases hi : i < 64
    · rw [if_pos hi, if_pos (by omega), Nat.mod_eq_of_lt hi]
    · rw [if_neg hi, if_neg (by omega)]
  · rw [if_neg hq, if_neg hq, addM_getD]
    by_cases h : q = i / 64
    · rw [if_pos h, if_pos (by omega)]
    · rw [if_neg h, if_neg (by omega)]

theorem has_add (f : Int) (ms : List Int) (i p : Nat) : has (addF f i) (addM ms i) p = (has f ms p || decide (p = i)) := by
  unfold has
  rw [word_add]
  by_cases h : p / 64 = i / 64
  · rw [if_pos h, tst_orb]
    congr 1
    rw [decide_eq_decide]
    omega
  · rw [if_neg h]
    have : decide (p = i) = false := decide_eq_false (by rintro rfl; exact h rfl)
    rw [this, Bool.or_false]

/-- Every word fits. -/
def WdL (ms : List Int) : Prop := ∀ k, Wd (ms.getD k 0)
theorem wdL_of (ms : List Int) (h : ∀ x ∈ ms, Wd x) : WdL ms := by
  intro k
  rw [List.getD_eq_getElem?_getD]
  by_cases hk : k < ms.length
  · rw [List.getElem?_eq_getElem hk]; exact h _ (List.getElem_mem hk)
  · rw [List.getElem?_eq_none (by omega)]; exact zero_wd
theorem WdL.pad {ms : List Int} (h : WdL ms) (n : Nat) : WdL (pad ms n) := fun k => by rw [pad_getD]; exact h k
theorem WdL.add {ms : List Int} (h : WdL ms) (i : Nat) : WdL (addM ms i) := by
  intro k
  rw [addM_getD]
  split
  · exact orb_wd _ _ (h k) (Nat.mod_lt _ (by decide))
  · exact h k
theorem addF_wd {f : Int} (h : Wd f) (i : Nat) : Wd (addF f i) := by
  unfold addF
  split
  · rename_i hi; exact orb_wd _ _ h hi
  · exact h

/-- How many places the first n words hold. -/
def psum (ms : List Int) : Nat → Nat
  | 0 => 0
  | n + 1 => psum ms n + pop (ms.getD n 0)

theorem psum_le (ms : List Int) (n : Nat) : psum ms n ≤ 64 * n := by
  induction n with
  | zero => simp [psum]
  | succ n ih => have := pop_le (ms.getD n 0); simp only [psum]; omega

theorem psum_past (ms : List Int) (n : Nat) (h : ms.length ≤ n) : psum ms n = psum ms ms.length := by
  induction n with
  | zero => have : ms.length = 0 := by omega
            rw [this]
  | succ n ih =>
    by_cases e : ms.length = n + 1
    · rw [e]
    · rw [psum, ih (by omega)]
      have : ms.getD n 0 = 0 := by rw [List.getD_eq_getElem?_getD, List.getElem?_eq_none (by omega)]; rfl
      rw [this, pop_zero]
      rfl

theorem psum_add (ms : List Int) (i n d : Nat) (hi : 64 ≤ i) (hd : d = if tst (ms.getD (i / 64 - 1) 0) (i % 64) then 0 else 1) : psum (addM ms i) n = psum ms n + (if i / 64 ≤ n then d else 0) := by
  induction n with
  | zero => rw [if_neg (by omega)]; rfl
  | succ n ih =>
    simp only [psum]
    rw [ih, addM_getD]
    by_cases h : n + 1 = i / 64
    · have e : (64 ≤ i ∧ n + 1 = i / 64) = True := eq_true ⟨hi, h⟩
      have e2 : ¬ i / 64 ≤ n := by omega
      have e3 : i / 64 ≤ n + 1 := by omega
      simp only [e, e2, e3, if_true, if_false]
      rw [pop_orb _ _ (Nat.mod_lt _ (by decide)), hd, show i / 64 - 1 = n by omega]
      omega
    · have e : (64 ≤ i ∧ n + 1 = i / 64) = False := eq_false (fun h2 => h h2.2)
      simp only [e, if_false]
      by_cases h2 : i / 64 ≤ n
      · have e3 : i / 64 ≤ n + 1 := by omega
        simp only [h2, e3, if_true]
        omega
      · have e3 : ¬ i / 64 ≤ n + 1 := by omega
        simp only [h2, e3, if_false]
        omega

/-- THE COUNT: one place more where it was new, none where it was not. -/
theorem count_add (f : Int) (ms : List Int) (i n : Nat) (hn : n = max ms.length (i / 64)) : pop (addF f i) + psum (addM ms i) n = pop f + psum ms ms.length + (if has f ms i then 0 else 1) := by
  have e := psum_past ms n (by omega)
  unfold has word
  by_cases h : i < 64
  · have e1 : addM ms i = ms := by rw [addM, if_pos h]
    have e2 : i / 64 = 0 := by omega
    rw [e1, e, addF, if_pos h, pop_orb f i h, e2, if_pos rfl, Nat.mod_eq_of_lt h]
    omega
  · have e2 : ¬ i / 64 = 0 := by omega
    rw [psum_add ms i n _ (by omega) rfl, e, addF, if_neg h, if_neg e2, if_pos (by omega)]
    omega

end Go.Proofs.Qxb6621677a
