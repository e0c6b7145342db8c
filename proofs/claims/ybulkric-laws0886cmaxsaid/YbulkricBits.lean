import Derived.Laws.BitsAllLaws
namespace Go.Proofs.Ybulkric
theorem and_low (n : Int) (h0 : 0 ≤ n) (h1 : n < 1000000000) : bits .and .u64 n 1073741823 = n := by
  rw [u64_and n 1073741823 h0 (by omega) (by decide) (by decide)]
  have e : n.toNat &&& (1073741823 : Int).toNat = n.toNat % 2 ^ 30 := Nat.and_two_pow_sub_one_eq_mod n.toNat 30
  rw [e]
  omega
theorem nat_and_top (m : Nat) (h : m < 1073741824) : m &&& 9223372036854775808 = 0 := by
  show m &&& 2 ^ 63 = 0
  apply Nat.eq_of_testBit_eq
  intro i
  rw [Nat.testBit_and, Nat.testBit_two_pow, Nat.zero_testBit]
  by_cases e : 63 = i
  · subst e
    rw [Nat.testBit_lt_two_pow (Nat.lt_of_lt_of_le h (by decide))]
    rfl
  · simp [e]
theorem and_top (n : Int) (h0 : 0 ≤ n) (h1 : n < 1073741824) : bits .and .u64 n 9223372036854775808 = 0 := by
  rw [u64_and n 9223372036854775808 h0 (by omega) (by decide) (by decide)]
  have e := nat_and_top n.toNat (by omega)
  have : (9223372036854775808 : Int).toNat = 9223372036854775808 := rfl
  rw [this, e]; rfl
theorem and_bd (n m : Int) (h0 : 0 ≤ n) (h1 : n < 1000000000) (g0 : 0 ≤ m) (g1 : m < 1000000000) : 0 ≤ bits .and .u64 n m ∧ bits .and .u64 n m < 1073741824 := by
  rw [u64_and n m h0 (by omega) g0 (by omega)]
  have := @Nat.and_le_left n.toNat m.toNat
  omega
theorem and_both (n m : Int) (h0 : 0 ≤ n) (h1 : n < 1000000000) (g0 : 0 ≤ m) (g1 : m < 1000000000) : bits .and .u64 (bits .and .u64 n m) 9223372036854775808 = 0 :=
  and_top _ (and_bd n m h0 h1 g0 g1).1 (and_bd n m h0 h1 g0 g1).2
theorem not_zero : bits .andNot .u64 0 1073741823 = 0 := by decide
theorem or_zero (n : Int) (h0 : 0 ≤ n) (h1 : n < 1000000000) : bits .or .u64 0 n = n := by
  rw [u64_or 0 n (by decide) (by decide) h0 (by omega)]
  have : (0 : Int).toNat = 0 := rfl
  rw [this, Nat.zero_or]
  omega
end Go.Proofs.Ybulkric
