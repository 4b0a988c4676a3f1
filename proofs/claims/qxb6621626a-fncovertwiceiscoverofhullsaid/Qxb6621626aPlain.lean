/-
  THE PLAIN LAW of exactSum.cover: lists of digits, no Go in sight.
-/
import Derived.Test.Qxb6621626aRows
namespace Go.Proofs.Qxb6621626a

/-- One round of cover's loop: a digit more above. -/
def ext (xs : List Int) : List Int := if xs.getLastD 0 < 0 then xs.dropLast ++ [xs.getLastD 0 + 4294967296, -1] else xs ++ [0]
def extN : Nat → List Int → List Int
  | 0, xs => xs
  | n + 1, xs => ext (extN n xs)

theorem ext_length (xs : List Int) : (ext xs).length = xs.length + 1 := by
  unfold ext
  split
  · rename_i h
    have : xs ≠ [] := by rintro rfl; simp at h
    have := List.length_pos_iff.2 this
    simp; omega
  · simp

theorem extN_length (n : Nat) (xs : List Int) : (extN n xs).length = xs.length + n := by
  induction n with
  | zero => rfl
  | succ n ih => rw [extN, ext_length, ih]; omega

theorem ext_prefix (zs xs : List Int) (h : xs ≠ []) : ext (zs ++ xs) = zs ++ ext xs := by
  have e : (zs ++ xs).getLastD 0 = xs.getLastD 0 := by
    rw [List.getLastD_eq_getLast?, List.getLastD_eq_getLast?, List.getLast?_append]
    cases hx : xs.getLast? with
    | none => exact absurd (List.getLast?_eq_none_iff.1 hx) h
    | some y => rfl
  unfold ext
  rw [e]
  split
  · rw [List.dropLast_append_of_ne_nil h]; simp
  · simp

theorem extN_ne (n : Nat) (xs : List Int) (h : xs ≠ []) : extN n xs ≠ [] := by
  intro e
  have := extN_length n xs
  rw [e] at this
  have := List.length_pos_iff.2 h
  simp at *
  omega

theorem extN_prefix (n : Nat) (zs xs : List Int) (h : xs ≠ []) : extN n (zs ++ xs) = zs ++ extN n xs := by
  induction n with
  | zero => rfl
  | succ n ih => rw [extN, ih, ext_prefix _ _ (extN_ne n xs h)]; rfl

theorem extN_add (m n : Nat) (xs : List Int) : extN m (extN n xs) = extN (m + n) xs := by
  induction m with
  | zero => simp [extN]
  | succ m ih => rw [show m + 1 + n = (m + n) + 1 by omega, extN, extN, ih]

/-- What cover leaves of a sum of digits xs whose lowest weight is low. -/
def covLow (xs : List Int) (low f : Int) : Int := if xs = [] then f else min low f
def covDig (xs : List Int) (low f t : Int) : List Int :=
  if xs = [] then extN (t + 1 - f).toNat []
  else List.replicate (low - f).toNat 0 ++ extN (t + 1 - (low + xs.length)).toNat xs

theorem covDig_length (xs : List Int) (low f t : Int) (h : xs ≠ []) : ((covDig xs low f t).length : Int) = max (low + xs.length) (t + 1) - covLow xs low f := by
  unfold covDig covLow
  rw [if_neg h, if_neg h]
  simp [extN_length]
  omega

theorem covDig_length_nil (low f t : Int) : ((covDig [] low f t).length : Int) = max f (t + 1) - f := by
  unfold covDig
  rw [if_pos rfl]
  simp [extN_length]
  omega

theorem covDig_ne (xs : List Int) (low f t : Int) (h : xs ≠ []) : covDig xs low f t ≠ [] := by
  unfold covDig
  rw [if_neg h]
  intro e
  exact extN_ne _ _ h (List.append_eq_nil_iff.1 e).2

/-- cover twice is cover of the hull. -/
theorem cov_twice (xs : List Int) (low f1 t1 f2 t2 : Int) (h : xs ≠ []) :
    covLow (covDig xs low f1 t1) (covLow xs low f1) f2 = covLow xs low (min f1 f2) ∧ covDig (covDig xs low f1 t1) (covLow xs low f1) f2 t2 = covDig xs low (min f1 f2) (max t1 t2) := by
  have hne := covDig_ne xs low f1 t1 h
  have hlen := covDig_length xs low f1 t1 h
  refine ⟨?_, ?_⟩
  · unfold covLow
    rw [if_neg hne, if_neg h, if_neg h]
    omega
  · have e2 : covDig (covDig xs low f1 t1) (covLow xs low f1) f2 t2 = List.replicate (covLow xs low f1 - f2).toNat 0 ++ extN (t2 + 1 - (covLow xs low f1 + (covDig xs low f1 t1).length)).toNat (covDig xs low f1 t1) := by
      rw [covDig, if_neg hne]
    rw [e2, hlen]
    have e3 : covDig xs low f1 t1 = List.replicate (low - f1).toNat 0 ++ extN (t1 + 1 - (low + xs.length)).toNat xs := by rw [covDig, if_neg h]
    have e4 : covDig xs low (min f1 f2) (max t1 t2) = List.replicate (low - min f1 f2).toNat 0 ++ extN (max t1 t2 + 1 - (low + xs.length)).toNat xs := by rw [covDig, if_neg h]
    rw [e3, e4, extN_prefix _ _ _ (extN_ne _ _ h), extN_add, ← List.append_assoc, List.replicate_append_replicate]
    have e5 : covLow xs low f1 = min low f1 := by rw [covLow, if_neg h]
    rw [e5]
    congr 2
    · omega
    · omega

/-- Every digit but the last from 0 to 2^32-1, the last from -2^31 to 2^31-1. -/
def Carried (xs : List Int) : Prop := ∀ i, i < xs.length → (i + 1 < xs.length → 0 ≤ xs.getD i 0 ∧ xs.getD i 0 ≤ 4294967295) ∧ (i + 1 = xs.length → -2147483648 ≤ xs.getD i 0 ∧ xs.getD i 0 ≤ 2147483647)

theorem getD_last (xs : List Int) (_h : xs ≠ []) : xs.getD (xs.length - 1) 0 = xs.getLastD 0 := by
  rw [List.getLastD_eq_getLast?, List.getLast?_eq_getElem?, List.getD_eq_getElem?_getD]

theorem ext_getD (xs : List Int) (i : Nat) : (ext xs).getD i 0 =
    if i + 1 < xs.length then xs.getD i 0 else if i + 1 = xs.length then (if xs.getLastD 0 < 0 then xs.getLastD 0 + 4294967296 else xs.getLastD 0) else if i = xs.length then (if xs.getLastD 0 < 0 then -1 else 0) else 0 := by
  by_cases hx : xs = []
  · subst hx
    cases i with
    | zero => simp [ext]
    | succ i => simp [ext]
  have hp := List.length_pos_iff.2 hx
  have hl := getD_last xs hx
  unfold ext
  by_cases hn : xs.getLastD 0 < 0
  · rw [if_pos hn, if_pos hn, if_pos hn]
    rw [List.getD_eq_getElem?_getD, List.getElem?_append]
    simp only [List.length_dropLast]
    by_cases h1 : i + 1 < xs.length
    · rw [if_pos (by omega), if_pos h1, List.getElem?_dropLast, if_pos (by omega), List.getD_eq_getElem?_getD]
    · rw [if_neg (by omega), if_neg h1]
      by_cases h2 : i + 1 = xs.length
      · rw [if_pos h2, show i - (xs.length - 1) = 0 by omega]; rfl
      · rw [if_neg h2]
        by_cases h3 : i = xs.length
        · rw [if_pos h3, show i - (xs.length - 1) = 1 by omega]; rfl
        · rw [if_neg h3, List.getElem?_eq_none (by simp; omega)]; rfl
  · rw [if_neg hn, if_neg hn, if_neg hn]
    rw [List.getD_eq_getElem?_getD, List.getElem?_append]
    by_cases h1 : i + 1 < xs.length
    · rw [if_pos (by omega), if_pos h1, List.getD_eq_getElem?_getD]
    · rw [if_neg h1]
      by_cases h2 : i + 1 = xs.length
      · rw [if_pos h2, if_pos (by omega), ← hl, ← h2, List.getD_eq_getElem?_getD]; simp
      · rw [if_neg h2, if_neg (by omega)]
        by_cases h3 : i = xs.length
        · rw [if_pos h3, h3]; simp
        · rw [if_neg h3, List.getElem?_eq_none (by simp; omega)]; rfl

theorem Carried.last {xs : List Int} (h : Carried xs) (hx : xs ≠ []) : -2147483648 ≤ xs.getLastD 0 ∧ xs.getLastD 0 ≤ 2147483647 := by
  have hp := List.length_pos_iff.2 hx
  have := (h (xs.length - 1) (by omega)).2 (by omega)
  rwa [getD_last xs hx] at this

theorem Carried.ext {xs : List Int} (h : Carried xs) : Carried (ext xs) := by
  intro i hi
  rw [ext_length] at hi
  rw [ext_getD]
  rw [ext_length]
  refine ⟨fun h1 => ?_, fun h1 => ?_⟩
  · by_cases h2 : i + 1 < xs.length
    · rw [if_pos h2]
      exact (h i (by omega)).1 h2
    · have h3 : i + 1 = xs.length := by omega
      have hx : xs ≠ [] := by rintro rfl; simp at h3
      have hl := h.last hx
      rw [if_neg h2, if_pos h3]
      split <;> omega
  · rw [if_neg (by omega), if_neg (by omega), if_pos (by omega)]
    split <;> omega

theorem Carried.extN {xs : List Int} (h : Carried xs) (n : Nat) : Carried (extN n xs) := by
  induction n with
  | zero => exact h
  | succ n ih => exact ih.ext

theorem Carried.nil : Carried [] := fun i hi => by simp at hi

theorem Carried.zeros {xs : List Int} (h : Carried xs) (p : Nat) (hx : xs ≠ []) : Carried (List.replicate p 0 ++ xs) := by
  have hp := List.length_pos_iff.2 hx
  intro i hi
  rw [List.getD_eq_getElem?_getD, List.getElem?_append]
  simp only [List.length_append, List.length_replicate] at hi ⊢
  by_cases hip : i < p
  · rw [if_pos hip]
    simp [hip]
  · rw [if_neg hip, ← List.getD_eq_getElem?_getD]
    have := h (i - p) (by omega)
    exact ⟨fun h1 => this.1 (by omega), fun h1 => this.2 (by omega)⟩

theorem Carried.cov {xs : List Int} (h : Carried xs) (low f t : Int) : Carried (covDig xs low f t) := by
  unfold covDig
  split
  · exact Carried.nil.extN _
  · rename_i hx
    exact (h.extN _).zeros _ (extN_ne _ _ hx)

/-- The digit of weight w, 0 where the sum holds none. -/
def dig (xs : List Int) (low w : Int) : Int := if w < low then 0 else xs.getD (w - low).toNat 0

/-- Two sums of one value, told by the carries. -/
def Same (xs : List Int) (xlow : Int) (ys : List Int) (ylow : Int) : Prop :=
  ∃ c : Int → Int, (∀ w, c w = 0 ∨ c w = 1) ∧ (∀ w, w ≤ ylow → c w = 0) ∧ (∀ w, ylow + ys.length ≤ w → c w = 0) ∧ ∀ w, dig ys ylow w - dig xs xlow w + c w = 4294967296 * c (w + 1)

theorem dig_zeros (p : Nat) (xs : List Int) (low w : Int) : dig (List.replicate p 0 ++ xs) (low - p) w = dig xs low w := by
  unfold dig
  by_cases h : w < low - p
  · rw [if_pos h, if_pos (by omega)]
  · rw [if_neg h, List.getD_eq_getElem?_getD, List.getElem?_append]
    by_cases h2 : w < low
    · rw [if_pos h2, if_pos (by simp; omega)]
      rw [List.getElem?_replicate]
      split <;> rfl
    · rw [if_neg h2, if_neg (by simp; omega), ← List.getD_eq_getElem?_getD]
      congr 1
      simp
      omega

theorem Same.zeros {xs ys : List Int} {xlow ylow : Int} (h : Same xs xlow ys ylow) (p : Nat) : Same xs xlow (List.replicate p 0 ++ ys) (ylow - p) := by
  obtain ⟨c, h1, h2, h3, h4⟩ := h
  exact ⟨c, h1, fun w hw => h2 w (by omega), fun w hw => h3 w (by simp at hw; omega), fun w => by rw [dig_zeros]; exact h4 w⟩

theorem Same.refl (xs : List Int) (low : Int) : Same xs low xs low := ⟨fun _ => 0, fun _ => .inl rfl, fun _ _ => rfl, fun _ _ => rfl, fun w => by simp⟩

theorem dig_ext (ys : List Int) (low w : Int) : dig (ext ys) low w =
    if w + 1 = low + ys.length ∧ ys ≠ [] ∧ ys.getLastD 0 < 0 then dig ys low w + 4294967296 else if w = low + ys.length ∧ ys.getLastD 0 < 0 then -1 else dig ys low w := by
  unfold dig
  by_cases h0 : w < low
  · rw [if_pos h0, if_pos h0, if_neg, if_neg]
    · rintro ⟨h1, _⟩; omega
    · rintro ⟨h1, h2, _⟩
      have := List.length_pos_iff.2 h2
      omega
  · rw [if_neg h0, if_neg h0, ext_getD]
    by_cases h1 : (w - low).toNat + 1 < ys.length
    · rw [if_pos h1, if_neg, if_neg]
      · rintro ⟨h2, _⟩; omega
      · rintro ⟨h2, _⟩; omega
    · rw [if_neg h1]
      by_cases h2 : (w - low).toNat + 1 = ys.length
      · have hx : ys ≠ [] := by rintro rfl; simp at h2
        have hl := getD_last ys hx
        have e : ys.getD (w - low).toNat 0 = ys.getLastD 0 := by rw [← hl]; congr 1; omega
        rw [if_pos h2, e]
        by_cases hn : ys.getLastD 0 < 0
        · rw [if_pos hn, if_pos ⟨by omega, hx, hn⟩]
        · rw [if_neg hn, if_neg (by rintro ⟨_, _, h⟩; exact hn h), if_neg (by rintro ⟨_, h⟩; exact hn h)]
      · have e : ys.getD (w - low).toNat 0 = 0 := by rw [List.getD_eq_getElem?_getD, List.getElem?_eq_none (by omega)]; rfl
        rw [if_neg h2, e]
        by_cases h3 : (w - low).toNat = ys.length
        · rw [if_pos h3]
          by_cases hn : ys.getLastD 0 < 0
          · rw [if_pos hn, if_neg (by rintro ⟨h, _⟩; omega), if_pos ⟨by omega, hn⟩]
          · rw [if_neg hn, if_neg (by rintro ⟨h, _⟩; omega), if_neg (by rintro ⟨_, h⟩; exact hn h)]
        · rw [if_neg h3, if_neg (by rintro ⟨h, _⟩; omega), if_neg (by rintro ⟨h, _⟩; omega)]

theorem dig_above (xs : List Int) (low w : Int) (h : low + xs.length ≤ w) : dig xs low w = 0 := by
  unfold dig
  split
  · rfl
  · rw [List.getD_eq_getElem?_getD, List.getElem?_eq_none (by omega)]; rfl

theorem Same.ext {xs ys : List Int} {xlow ylow : Int} (h : Same xs xlow ys ylow) (htop : xs ≠ [] → xlow + xs.length ≤ ylow + ys.length) : Same xs xlow (ext ys) ylow := by
  obtain ⟨c, h1, h2, h3, h4⟩ := h
  by_cases hn : ys.getLastD 0 < 0
  · have hy : ys ≠ [] := by rintro rfl; simp at hn
    have hp := List.length_pos_iff.2 hy
    refine ⟨fun w => if w = ylow + ys.length then 1 else c w, fun w => ?_, fun w hw => ?_, fun w hw => ?_, fun w => ?_⟩
    · show (if w = ylow + ys.length then (1 : Int) else c w) = 0 ∨ (if w = ylow + ys.length then (1 : Int) else c w) = 1
      split
      · exact .inr rfl
      · exact h1 w
    · show (if w = ylow + ys.length then (1 : Int) else c w) = 0
      rw [if_neg (by omega)]; exact h2 w hw
    · show (if w = ylow + ys.length then (1 : Int) else c w) = 0
      rw [ext_length] at hw
      rw [if_neg (by omega)]; exact h3 w (by omega)
    · show dig (Qxb6621626a.ext ys) ylow w - dig xs xlow w + (if w = ylow + ys.length then (1 : Int) else c w) = 4294967296 * (if w + 1 = ylow + ys.length then (1 : Int) else c (w + 1))
      rw [dig_ext]
      have hw := h4 w
      by_cases e1 : w + 1 = ylow + ys.length
      · rw [if_pos ⟨e1, hy, hn⟩, if_neg (by omega), if_pos e1]
        have := h3 (w + 1) (by omega)
        rw [this] at hw
        omega
      · rw [if_neg (by rintro ⟨h, _⟩; exact e1 h), if_neg e1]
        by_cases e2 : w = ylow + ys.length
        · rw [if_pos ⟨e2, hn⟩, if_pos e2]
          have z1 := h3 (w + 1) (by omega)
          have z2 : dig xs xlow w = 0 := by
            by_cases hx : xs = []
            · subst hx; unfold dig; split <;> simp
            · exact dig_above _ _ _ (by have := htop hx; omega)
          rw [z1, z2]; omega
        · rw [if_neg (by rintro ⟨h, _⟩; exact e2 h), if_neg e2]; exact hw
  · refine ⟨c, h1, h2, fun w hw => h3 w (by rw [ext_length] at hw; omega), fun w => ?_⟩
    rw [dig_ext, if_neg (by rintro ⟨_, _, h⟩; exact hn h), if_neg (by rintro ⟨_, h⟩; exact hn h)]
    exact h4 w

theorem Same.extN {xs ys : List Int} {xlow ylow : Int} (h : Same xs xlow ys ylow) (htop : xs ≠ [] → xlow + xs.length ≤ ylow + ys.length) (n : Nat) : Same xs xlow (extN n ys) ylow := by
  induction n with
  | zero => exact h
  | succ n ih => exact ih.ext (fun hx => by rw [extN_length]; have := htop hx; omega)

theorem Same.cov (xs : List Int) (low f t : Int) : Same xs low (covDig xs low f t) (covLow xs low f) := by
  unfold covDig covLow
  by_cases h : xs = []
  · subst h
    rw [if_pos rfl, if_pos rfl]
    refine Same.extN ⟨fun _ => 0, fun _ => .inl rfl, fun _ _ => rfl, fun _ _ => rfl, fun w => ?_⟩ (fun h => absurd rfl h) _
    simp [dig]
  · rw [if_neg h, if_neg h]
    have := ((Same.refl xs low).extN (fun _ => Int.le_refl _) (t + 1 - (low + xs.length)).toNat).zeros (low - f).toNat
    rw [show min low f = low - ((low - f).toNat : Int) by omega]
    exact this

end Go.Proofs.Qxb6621626a
