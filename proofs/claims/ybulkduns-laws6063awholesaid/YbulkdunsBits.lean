/- Seat b6063a: the masks of package time's wall word, at numbers below 2^30. -/
import Derived.Laws.BitsAllLaws
namespace Go.Proofs.Ybulkduns
open Go

theorem low_and (n : Nat) (h : n < 1073741824) : bits .and .u64 (n : Int) 1073741823 = (n : Int) := by
  have e := u64_and_nat n 1073741823 (by omega) (by omega)
  have e2 : n &&& 1073741823 = n := by
    have := Nat.and_two_pow_sub_one_eq_mod n 30
    simp only [show (2 : Nat) ^ 30 - 1 = 1073741823 from rfl] at this
    rw [this]; exact Nat.mod_eq_of_lt (by omega)
  rw [e2] at e
  exact e
theorem high_and (n : Nat) (h : n < 1073741824) : bits .and .u64 (n : Int) 9223372036854775808 = 0 := by
  have e := u64_and_nat n 9223372036854775808 (by omega) (by omega)
  have e2 : n &&& 9223372036854775808 = 0 := by
    have ht : n.testBit 63 = false := Nat.testBit_lt_two_pow (by omega)
    apply Nat.eq_of_testBit_eq
    intro i
    rw [Nat.testBit_and, show (9223372036854775808 : Nat) = 2 ^ 63 from rfl, Nat.testBit_two_pow]
    by_cases hi : 63 = i
    · subst hi; simp [ht]
    · simp [hi]
  rw [e2] at e
  exact e
theorem zero_or (n : Nat) (h : n < 1073741824) : bits .or .u64 0 (n : Int) = (n : Int) := by
  have e := u64_or_nat 0 n (by omega) (by omega)
  rw [Nat.zero_or] at e
  exact e
theorem zero_andNot : bits .andNot .u64 0 1073741823 = 0 := by
  have e := u64_andNot_nat 0 1073741823 (by omega) (by omega)
  rw [Nat.zero_and] at e
  exact e
theorem self_and (n : Nat) (h : n < 1073741824) : bits .and .u64 (n : Int) (n : Int) = (n : Int) := by
  have e := u64_and_nat n n (by omega) (by omega)
  rw [Nat.and_self] at e
  exact e
end Go.Proofs.Ybulkduns
