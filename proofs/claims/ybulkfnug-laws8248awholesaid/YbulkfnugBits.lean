import Derived.Laws.BitsAllLaws
namespace Go.Proofs.Ybulkfnug.Plain
theorem and_mask (a : Int) (h0 : 0 ≤ a) (h1 : a < 1073741824) : bits .and .u64 a 1073741823 = a := by
  rw [u64_and a 1073741823 h0 (by omega) (by omega) (by omega)]
  have e : (1073741823 : Int).toNat = 2 ^ 30 - 1 := by decide
  rw [e, Nat.and_two_pow_sub_one_eq_mod]
  omega
theorem andNot_mask (a : Int) (h0 : 0 ≤ a) (h1 : a < 1073741824) : bits .andNot .u64 a 1073741823 = 0 := by
  rw [u64_andNot a 1073741823 h0 (by omega) (by omega) (by omega)]
  have e : 18446744073709551615 - (1073741823 : Int).toNat = 2 ^ 30 * 17179869183 := by decide
  rw [e]
  have ha : a.toNat < 2 ^ 30 := by omega
  have : a.toNat &&& 2 ^ 30 * 17179869183 = 0 := by
    apply Nat.eq_of_testBit_eq
    intro i
    rw [Nat.testBit_and, Nat.zero_testBit]
    by_cases hi : i < 30
    · have : (2 ^ 30 * 17179869183).testBit i = false := by
        rw [Nat.testBit_two_pow_mul]; simp; omega
      rw [this, Bool.and_false]
    · have : a.toNat.testBit i = false := Nat.testBit_lt_two_pow (Nat.lt_of_lt_of_le ha (Nat.pow_le_pow_right (by omega) (by omega)))
      rw [this, Bool.false_and]
  rw [this]; rfl
theorem or_zero (b : Int) (h0 : 0 ≤ b) (h1 : b < 1073741824) : bits .or .u64 0 b = b := by
  rw [u64_or 0 b (by omega) (by omega) h0 (by omega)]
  have e : (0 : Int).toNat = 0 := rfl
  rw [e, Nat.zero_or]
  omega
theorem and_top (a : Int) (h0 : 0 ≤ a) (h1 : a < 1073741824) : bits .and .u64 a 9223372036854775808 = 0 := by
  rw [u64_and a 9223372036854775808 h0 (by omega) (by omega) (by omega)]
  have e : (9223372036854775808 : Int).toNat = 2 ^ 63 := by decide
  rw [e, nat_bit]
  have : a.toNat / 2 ^ 63 = 0 := Nat.div_eq_of_lt (by omega)
  rw [this]; rfl
theorem and_bd (a b : Int) (h0 : 0 ≤ a) (h1 : a < 1073741824) (h2 : 0 ≤ b) (h3 : b < 1073741824) : 0 ≤ bits .and .u64 a b ∧ bits .and .u64 a b < 1073741824 := by
  rw [u64_and a b h0 (by omega) h2 (by omega)]
  have := Nat.and_le_left (n := a.toNat) (m := b.toNat)
  omega
/-- What Go's quotient and remainder by 10^9 say, linearly. -/
theorem quo_rem (d : Int) : d = 1000000000 * d.tdiv 1000000000 + d.tmod 1000000000 ∧ -1000000000 < d.tmod 1000000000 ∧ d.tmod 1000000000 < 1000000000 :=
  ⟨(Int.mul_tdiv_add_tmod d 1000000000).symm, Int.lt_tmod_of_pos d (by decide), Int.tmod_lt_of_pos d (by decide)⟩
theorem quo_bd (d : Int) (h0 : -9223372036854775808 ≤ d) (h1 : d ≤ 9223372036854775807) : -9300000000 ≤ d.tdiv 1000000000 ∧ d.tdiv 1000000000 ≤ 9300000000 := by
  have := quo_rem d
  omega
/-- The nanoseconds within the second, and the second, of a moment m nanoseconds past the zero time. -/
def wl (m : Int) : Int := m % 1000000000
def ex (m : Int) : Int := m / 1000000000
theorem wl_bd (m : Int) : 0 ≤ wl m ∧ wl m < 1000000000 := by unfold wl; omega
theorem ex_bd (m : Int) (h0 : -9223372036854775808 ≤ m) (h1 : m ≤ 9223372036854775807) : -9300000000 ≤ ex m ∧ ex m ≤ 9300000000 := by unfold ex; omega
theorem lt_iff (m k : Int) : m < k ↔ ex m < ex k ∨ ex m = ex k ∧ wl m < wl k := by unfold ex wl; omega
theorem part (m q r d : Int) (h : d = 1000000000 * q + r) (h0 : 0 ≤ m % 1000000000 + r) (h1 : m % 1000000000 + r < 1000000000) :
    m % 1000000000 + r = (m + d) % 1000000000 ∧ m / 1000000000 + q = (m + d) / 1000000000 := by omega
theorem part_up (m q r d : Int) (h : d = 1000000000 * q + r) (h0 : 1000000000 ≤ m % 1000000000 + r) (h1 : r < 1000000000) :
    m % 1000000000 + r - 1000000000 = (m + d) % 1000000000 ∧ m / 1000000000 + (q + 1) = (m + d) / 1000000000 := by omega
theorem part_down (m q r d : Int) (h : d = 1000000000 * q + r) (h0 : m % 1000000000 + r < 0) (h1 : -1000000000 < r) :
    m % 1000000000 + r + 1000000000 = (m + d) % 1000000000 ∧ m / 1000000000 + (q - 1) = (m + d) / 1000000000 := by omega
end Go.Proofs.Ybulkfnug.Plain
