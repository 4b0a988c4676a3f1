/-
  THE PLAIN LAW of keySet.add: words as whole numbers, bits; no Go in sight.
-/
import Derived.Test.Qxb6621677aRows
import Derived.Laws.BitsAllLaws
namespace Go.Proofs.Qxb6621677a

/-- A word fits 64 bits. -/
def Wd (x : Int) : Prop := 0 ≤ x ∧ x < 18446744073709551616
/-- Bit i set. -/
def orb (x : Int) (i : Nat) : Int := ((x.toNat ||| 2 ^ i : Nat) : Int)
/-- Is bit i set? -/
def tst (x : Int) (i : Nat) : Bool := x.toNat.testBit i

theorem two_pow_lt (i : Nat) (h : i < 64) : 2 ^ i < 18446744073709551616 := by
  have : (2 : Nat) ^ i < 2 ^ 64 := Nat.pow_lt_pow_right (by decide) h
  simpa using this

theorem orb_wd (x : Int) (i : Nat) (h : Wd x) (hi : i < 64) : Wd (orb x i) := by
  refine ⟨by unfold orb; omega, ?_⟩
  unfold orb
  have h1 : x.toNat < 2 ^ 64 := by have := h.1; have := h.2; omega
  have h2 : 2 ^ i < 2 ^ 64 := Nat.pow_lt_pow_right (by decide) hi
  have := Nat.or_lt_two_pow h1 h2
  omega

theorem tst_orb (x : Int) (i j : Nat) : tst (orb x i) j = (tst x j || decide (i = j)) := by
  simp [tst, orb, Nat.testBit_or, Nat.testBit_two_pow]

theorem orb_comm (x : Int) (i j : Nat) : orb (orb x i) j = orb (orb x j) i := by
  simp only [orb, Int.toNat_natCast]
  rw [Nat.or_assoc, Nat.or_comm (2 ^ i), ← Nat.or_assoc]

theorem orb_orb (x : Int) (i : Nat) : orb (orb x i) i = orb x i := by
  simp only [orb, Int.toNat_natCast]
  rw [Nat.or_assoc, Nat.or_self]

theorem zero_wd : Wd 0 := ⟨by omega, by omega⟩
theorem tst_zero (i : Nat) : tst 0 i = false := by simp [tst]

/-- THE MODEL's OPERATIONS ON WORDS. -/
theorem bits_or (x : Int) (i : Nat) (h : Wd x) (hi : i < 64) : bits .or .u64 x ((2 ^ i : Nat) : Int) = orb x i := by
  have hp := two_pow_lt i hi
  unfold orb
  generalize 2 ^ i = m at hp ⊢
  rw [u64_or x (m : Int) h.1 h.2 (by omega) (by omega), Int.toNat_natCast]

theorem tst_shift (x : Int) (i : Nat) (h : Wd x) : (bits .and .u64 (x / 2 ^ i) 1 == 1) = tst x i := by
  have e1 : x / 2 ^ i = ((x.toNat / 2 ^ i : Nat) : Int) := by
    have : x = (x.toNat : Int) := by have := h.1; omega
    rw [this]
    simp
  have hb : x.toNat / 2 ^ i < 18446744073709551616 := by
    have := Nat.div_le_self x.toNat (2 ^ i)
    have := h.1; have := h.2
    omega
  rw [e1]
  have e2 := u64_and_nat (x.toNat / 2 ^ i) 1 hb (by decide)
  rw [show ((1 : Nat) : Int) = 1 from rfl] at e2
  rw [e2, Nat.and_one_is_mod, tst, Nat.testBit_eq_decide_div_mod_eq]
  generalize x.toNat / 2 ^ i % 2 = m
  rw [Bool.eq_iff_iff]
  simp
  omega

theorem and_orb (x : Int) (i : Nat) (h : Wd x) (hi : i < 64) : bits .and .u64 x (orb x i) = x := by
  have hw := orb_wd x i h hi
  rw [u64_and x (orb x i) h.1 h.2 hw.1 hw.2]
  have : x.toNat &&& (orb x i).toNat = x.toNat := by
    unfold orb
    rw [Int.toNat_natCast]
    apply Nat.eq_of_testBit_eq
    intro k
    simp [Nat.testBit_and, Nat.testBit_or]
    cases x.toNat.testBit k <;> simp
  rw [this]
  have := h.1
  omega

theorem and_self_wd (x : Int) (h : Wd x) : bits .and .u64 x x = x := by
  rw [u64_and x x h.1 h.2 h.1 h.2, Nat.and_self]
  have := h.1
  omega

/-- The number of set bits among the first n. -/
def popc : Nat → Nat → Nat
  | 0, _ => 0
  | n + 1, x => x % 2 + popc n (x / 2)

theorem popc_zero (n : Nat) : popc n 0 = 0 := by
  induction n with
  | zero => rfl
  | succ n ih => simp [popc, ih]

theorem popc_step (n : Nat) : ∀ x, 0 < x → x < 2 ^ n → popc n x = popc n (x &&& (x - 1)) + 1 := by
  induction n with
  | zero => intro x h1 h2; simp at h2; omega
  | succ n ih =>
    intro x h1 h2
    rw [Nat.pow_succ] at h2
    have hd : (x &&& (x - 1)) / 2 = x / 2 &&& (x - 1) / 2 := Nat.and_div_two
    have hm : (x &&& (x - 1)) % 2 = 0 := by
      have := Nat.and_mod_two_pow (a := x) (b := x - 1) (n := 1)
      simp only [Nat.pow_one] at this
      rw [this]
      rcases Nat.mod_two_eq_zero_or_one x with h | h
      · rw [h]; simp
      · rw [show (x - 1) % 2 = 0 by omega]; simp
    simp only [popc, hd, hm]
    rcases Nat.mod_two_eq_zero_or_one x with h | h
    · rw [show (x - 1) / 2 = x / 2 - 1 by omega, ih (x / 2) (by omega) (by omega), h]
      omega
    · rw [show (x - 1) / 2 = x / 2 by omega, Nat.and_self, h]
      omega

theorem popc_or (n : Nat) : ∀ x i, i < n → popc n (x ||| 2 ^ i) = popc n x + (if x.testBit i then 0 else 1) := by
  induction n with
  | zero => intro x i h; omega
  | succ n ih =>
    intro x i h
    have hd : (x ||| 2 ^ i) / 2 = x / 2 ||| 2 ^ i / 2 := Nat.or_div_two
    have hm : (x ||| 2 ^ i) % 2 = (x % 2 ||| 2 ^ i % 2) := by
      have := Nat.or_mod_two_pow (a := x) (b := 2 ^ i) (n := 1)
      simpa only [Nat.pow_one] using this
    simp only [popc]
    rw [hd, hm]
    cases i with
    | zero =>
      simp only [Nat.pow_zero]
      rw [show (1 : Nat) / 2 = 0 from rfl, Nat.or_zero, show (1 : Nat) % 2 = 1 from rfl, Nat.testBit_zero]
      rcases Nat.mod_two_eq_zero_or_one x with h0 | h0 <;> rw [h0] <;> simp <;> omega
    | succ i =>
      have e1 : 2 ^ (i + 1) / 2 = 2 ^ i := by rw [Nat.pow_succ]; omega
      have e2 : 2 ^ (i + 1) % 2 = 0 := by rw [Nat.pow_succ]; omega
      rw [e1, e2, Nat.or_zero, ih (x / 2) i (by omega), Nat.testBit_succ]
      omega

def pop (x : Int) : Nat := popc 64 x.toNat
theorem pop_zero : pop 0 = 0 := popc_zero 64
theorem pop_orb (x : Int) (i : Nat) (hi : i < 64) : pop (orb x i) = pop x + (if tst x i then 0 else 1) := by
  unfold pop orb tst
  rw [Int.toNat_natCast]
  exact popc_or 64 _ _ hi

theorem popc_le (n : Nat) : ∀ x, popc n x ≤ n := by
  induction n with
  | zero => intro x; simp [popc]
  | succ n ih => intro x; have := ih (x / 2); simp only [popc]; omega
theorem pop_le (x : Int) : pop x ≤ 64 := popc_le 64 _

/-- One round of b1Pop. -/
theorem pop_round (x : Int) (h : Wd x) (h0 : x ≠ 0) : ∃ y : Int, Wd y ∧ pop x = pop y + 1 ∧ bits .and .u64 x (x - 1) = y := by
  have h1 := h.1
  have h2 := h.2
  refine ⟨((x.toNat &&& (x.toNat - 1) : Nat) : Int), ⟨by omega, ?_⟩, ?_, ?_⟩
  · have : x.toNat &&& (x.toNat - 1) ≤ x.toNat := Nat.and_le_left
    omega
  · unfold pop
    rw [Int.toNat_natCast]
    exact popc_step 64 x.toNat (by omega) (by omega)
  · rw [u64_and x (x - 1) h1 h2 (by omega) (by omega)]
    rw [show (x - 1).toNat = x.toNat - 1 by omega]

end Go.Proofs.Qxb6621677a
