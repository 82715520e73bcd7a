import Derived.Laws.BitsAllLaws
import Derived.RowKit
namespace Go.Proofs.Ybulkcqkg
open Go.RowKit

/-- The nanoseconds of a second lie in the low 30 bits. -/
theorem and_low (n : Nat) (h : n < 1073741824) : bits .and .u64 (n : Int) 1073741823 = n := by
  have h1 := u64_and_nat n 1073741823 (by omega) (by omega)
  have e : n &&& 1073741823 = n % 1073741824 := Nat.and_two_pow_sub_one_eq_mod n 30
  rw [e] at h1
  have e2 : n % 1073741824 = n := by omega
  rw [e2] at h1
  exact h1

/-- The mark of a monotonic clock is the highest bit. -/
theorem and_high (n : Nat) (h : n < 1073741824) : bits .and .u64 (n : Int) 9223372036854775808 = 0 := by
  have h1 := u64_and_nat n 9223372036854775808 (by omega) (by omega)
  have e : n &&& 9223372036854775808 = 0 := by
    apply Nat.eq_of_testBit_eq
    intro i
    have e63 : (9223372036854775808 : Nat) = 2 ^ 63 := by decide
    rw [Nat.testBit_and, e63, Nat.testBit_two_pow, Nat.zero_testBit]
    by_cases hi : 63 = i
    · subst hi
      have : n.testBit 63 = false := Nat.testBit_lt_two_pow (by omega)
      simp [this]
    · simp [hi]
  rw [e] at h1
  exact h1

theorem test_high (n : Nat) (h : n < 1073741824) : (bits .and .u64 (n : Int) 9223372036854775808 != 0) = false := by
  rw [and_high n h]; rfl

theorem and_both (n m : Nat) (h : n < 1073741824) (hm : m < 1073741824) : ∃ k : Nat, k < 1073741824 ∧ bits .and .u64 (n : Int) (m : Int) = k := by
  refine ⟨n &&& m, Nat.lt_of_le_of_lt Nat.and_le_left h, ?_⟩
  exact u64_and_nat n m (by omega) (by omega)

theorem andNot_zero : bits .andNot .u64 0 1073741823 = 0 := by decide
theorem or_zero (n : Nat) (h : n < 1073741824) : bits .or .u64 0 (n : Int) = n := by
  have := u64_or_nat 0 n (by omega) (by omega)
  simpa using this
theorem tdiv_neg (d : Int) (h : d < 0) : d.tdiv 1000000000 = -((-d) / 1000000000) := by
  have h1 := Int.neg_tdiv (a := -d) (b := 1000000000)
  rw [Int.neg_neg] at h1
  rw [h1, Int.tdiv_eq_ediv_of_nonneg (by omega)]
theorem tmod_neg (d : Int) (h : d < 0) : d.tmod 1000000000 = -((-d) % 1000000000) := by
  have h1 := Int.neg_tmod (-d) 1000000000
  rw [Int.neg_neg] at h1
  rw [h1, Int.tmod_eq_emod_of_nonneg (by omega)]
end Go.Proofs.Ybulkcqkg
