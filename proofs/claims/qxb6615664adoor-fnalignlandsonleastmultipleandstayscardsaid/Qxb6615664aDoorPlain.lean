/-
  PLAIN: '&' and '&^' on ints that are not negative; a power of two; the least multiple that is not below. No Go in sight but for 'bits'.
-/
import Derived.Lib.QuoteBits
namespace Go.Proofs.Qxb6615664aDoor
open Go

theorem and_i64 (a b : Nat) (ha : a < 9223372036854775808) (hb : b < 9223372036854775808) : bits .and .i64 (a : Int) (b : Int) = ((a &&& b : Nat) : Int) := by
  have hx : a &&& b < 2 ^ 63 := Nat.and_lt_two_pow _ (by omega)
  show IntKind.i64.wrap ((BitVec.ofInt 64 (a : Int) &&& BitVec.ofInt 64 (b : Int)).toNat : Int) = _
  rw [BitVec.toNat_and, ofInt_u64 a (by omega), ofInt_u64 b (by omega)]
  exact Lib.wrap_i64_small _ (by omega)

/-- A number whose '&' with the one below it is nought is a power of two. -/
theorem pow_of_and (n : Nat) (hn : 1 ≤ n) (h : n &&& (n - 1) = 0) : ∃ k, n = 2 ^ k := by
  refine ⟨n.log2, ?_⟩
  have h1 : 2 ^ n.log2 ≤ n := Nat.log2_self_le (by omega)
  have h2 : n < 2 ^ (n.log2 + 1) := Nat.lt_log2_self
  by_cases e : n = 2 ^ n.log2
  · exact e
  · have t1 : n.testBit n.log2 = true := Nat.testBit_of_two_pow_le_and_two_pow_add_one_gt h1 h2
    have t2 : (n - 1).testBit n.log2 = true := Nat.testBit_of_two_pow_le_and_two_pow_add_one_gt (by omega) (by omega)
    have t3 : (n &&& (n - 1)).testBit n.log2 = true := by rw [Nat.testBit_and, t1, t2]; rfl
    rw [h] at t3
    simp at t3

theorem and_high (x k : Nat) (hx : x < 2 ^ 64) (hk : k ≤ 64) : x &&& (2 ^ 64 - 2 ^ k) = x / 2 ^ k * 2 ^ k := by
  have hp : 2 ^ k ≤ 2 ^ 64 := Nat.pow_le_pow_right (by omega) hk
  have e : 2 ^ 64 - 2 ^ k = 2 ^ 64 - ((2 ^ k - 1) + 1) := by have : 0 < 2 ^ k := Nat.two_pow_pos k; omega
  rw [← Nat.shiftRight_eq_div_pow, ← Nat.shiftLeft_eq]
  apply Nat.eq_of_testBit_eq
  intro j
  rw [Nat.testBit_and, e, Nat.testBit_two_pow_sub_succ (by have : 0 < 2 ^ k := Nat.two_pow_pos k; omega), Nat.testBit_two_pow_sub_one, Nat.testBit_shiftLeft, Nat.testBit_shiftRight]
  by_cases h1 : k ≤ j
  · have h2 : ¬ j < k := by omega
    by_cases h3 : j < 64
    · simp [h1, h2, h3, show k + (j - k) = j by omega]
    · have h4 : x.testBit j = false := Nat.testBit_lt_two_pow (Nat.lt_of_lt_of_le hx (Nat.pow_le_pow_right (by omega) (by omega)))
      simp [h1, h2, h3, h4, show k + (j - k) = j by omega]
  · have h2 : j < k := by omega
    simp [h1, h2]

theorem andNot_i64 (x k : Nat) (hx : x < 9223372036854775808) (hk : k ≤ 62) : bits .andNot .i64 (x : Int) ((2 ^ k - 1 : Nat) : Int) = ((x / 2 ^ k * 2 ^ k : Nat) : Int) := by
  have hp : 2 ^ k ≤ 2 ^ 62 := Nat.pow_le_pow_right (by omega) hk
  have hp0 : 0 < 2 ^ k := Nat.two_pow_pos k
  show IntKind.i64.wrap ((BitVec.ofInt 64 (x : Int) &&& ~~~BitVec.ofInt 64 ((2 ^ k - 1 : Nat) : Int)).toNat : Int) = _
  rw [BitVec.toNat_and, BitVec.toNat_not, ofInt_u64 x (by omega), ofInt_u64 (2 ^ k - 1) (by omega)]
  have e : 2 ^ 64 - 1 - (2 ^ k - 1) = 2 ^ 64 - 2 ^ k := by omega
  rw [e, and_high x k (by omega) (by omega)]
  have hle : x / 2 ^ k * 2 ^ k ≤ x := Nat.div_mul_le_self _ _
  exact Lib.wrap_i64_small _ (by omega)

/-- The least multiple of n that is not below p. -/
def ceil (p n : Nat) : Nat := (p + n - 1) / n * n

theorem ceil_cases (p n : Nat) (hn : 1 ≤ n) : (p / n * n = p ∧ ceil p n = p) ∨ (p / n * n < p ∧ ceil p n = p / n * n + n) := by
  have h1 := Nat.div_add_mod p n
  have h2 := Nat.mod_lt p (show 0 < n by omega)
  rw [Nat.mul_comm] at h1
  have hq : ∀ r, r < n → (p / n * n + r) / n = p / n := fun r hr => by
    rw [Nat.mul_comm, Nat.mul_add_div (by omega), Nat.div_eq_of_lt hr]; rfl
  unfold ceil
  by_cases e : p % n = 0
  · left
    refine ⟨by omega, ?_⟩
    have e1 : p + n - 1 = p / n * n + (n - 1) := by omega
    rw [e1, hq (n - 1) (by omega)]
    omega
  · right
    refine ⟨by omega, ?_⟩
    have e1 : p + n - 1 = (p / n * n + (p % n - 1)) + n := by omega
    rw [e1, Nat.add_div_right _ (by omega), hq (p % n - 1) (by omega), Nat.succ_mul]

theorem ceil_ge (p n : Nat) (hn : 1 ≤ n) : p ≤ ceil p n ∧ ceil p n < p + n := by
  have h1 := Nat.div_add_mod p n
  have h2 := Nat.mod_lt p (show 0 < n by omega)
  rw [Nat.mul_comm] at h1
  rcases ceil_cases p n hn with ⟨a, b⟩ | ⟨a, b⟩ <;> omega

theorem ceil_mul (q n : Nat) (hn : 1 ≤ n) : ceil (q * n) n = q * n := by
  rcases ceil_cases (q * n) n hn with ⟨_, b⟩ | ⟨a, _⟩
  · exact b
  · rw [Nat.mul_div_cancel _ (by omega)] at a; omega

theorem ceil_ceil (p n : Nat) (hn : 1 ≤ n) : ceil (ceil p n) n = ceil p n := by
  have e : ceil p n = ((p + n - 1) / n) * n := rfl
  rw [e, ceil_mul _ n hn]

/-- 'align''s own reckoning. -/
theorem align_bits (p n : Nat) (hn : 1 ≤ n) (hn2 : n ≤ 1073741824) (hp : p ≤ 2147483648) (h : n &&& (n - 1) = 0) : bits .andNot .i64 ((p : Int) + (n : Int) - 1) ((n : Int) - 1) = (ceil p n : Int) := by
  obtain ⟨k, rfl⟩ := pow_of_and n hn h
  have hk : k ≤ 62 := by
    rcases Nat.lt_or_ge 62 k with hk | hk
    · have : 2 ^ 63 ≤ 2 ^ k := Nat.pow_le_pow_right (by omega) hk
      omega
    · exact hk
  have e1 : (p : Int) + ((2 ^ k : Nat) : Int) - 1 = ((p + 2 ^ k - 1 : Nat) : Int) := by omega
  have e2 : ((2 ^ k : Nat) : Int) - 1 = ((2 ^ k - 1 : Nat) : Int) := by omega
  rw [e1, e2, andNot_i64 _ k (by omega) hk]
  rfl

theorem test_bits (n : Nat) (hn : 1 ≤ n) (hn2 : n ≤ 1073741824) : bits .and .i64 (n : Int) ((n : Int) - 1) = ((n &&& (n - 1) : Nat) : Int) := by
  have e2 : (n : Int) - 1 = ((n - 1 : Nat) : Int) := by omega
  rw [e2, and_i64 n (n - 1) (by omega) (by omega)]
end Go.Proofs.Qxb6615664aDoor
