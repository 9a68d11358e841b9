/-
  PLAIN FACTS ON WORDS: a wall word that holds nanoseconds alone. No Go in sight.
-/
import Derived.Laws.BitsAllLaws
namespace Go.Proofs.Ybulkcrca
open Go

/-- a wall word that holds nanoseconds alone -/
structure Wall (n : Int) : Prop where
  lo : 0 ≤ n
  hi : n < 1000000000
  mask : bits .and .u64 n 1073741823 = n
  mono : bits .and .u64 n 9223372036854775808 = 0
  clear : bits .andNot .u64 n 1073741823 = 0
  or : bits .or .u64 0 n = n

theorem nat_high (a : Nat) (h : a < 1073741824) : a &&& 9223372036854775808 = 0 := by
  have e0 : 9223372036854775808 = 2 ^ 63 * 1 := by decide
  rw [e0]
  apply Nat.eq_of_testBit_eq
  intro i
  rw [Nat.testBit_and, Nat.testBit_two_pow_mul, Nat.zero_testBit]
  by_cases hi : 63 ≤ i
  · rw [Nat.testBit_lt_two_pow (Nat.lt_of_lt_of_le (show a < 2 ^ 63 by omega) (Nat.pow_le_pow_right (by omega) hi))]
    rfl
  · simp [hi]

theorem nat_clear (a : Nat) (h : a < 1073741824) : a &&& 18446744072635809792 = 0 := by
  have e0 : 18446744072635809792 = 2 ^ 30 * 17179869183 := by decide
  rw [e0]
  apply Nat.eq_of_testBit_eq
  intro i
  rw [Nat.testBit_and, Nat.testBit_two_pow_mul, Nat.zero_testBit]
  by_cases hi : 30 ≤ i
  · rw [Nat.testBit_lt_two_pow (Nat.lt_of_lt_of_le (show a < 2 ^ 30 by omega) (Nat.pow_le_pow_right (by omega) hi))]
    rfl
  · simp [hi]

theorem wall_mk {n : Int} (lo : 0 ≤ n) (hi : n < 1000000000) : Wall n where
  lo := lo
  hi := hi
  mask := by
    rw [Go.u64_and n 1073741823 lo (by omega) (by omega) (by omega)]
    have e : n.toNat &&& (1073741823 : Int).toNat = n.toNat := by
      have e1 : n.toNat &&& (2 ^ 30 - 1) = n.toNat % 2 ^ 30 := Nat.and_two_pow_sub_one_eq_mod n.toNat 30
      have e2 : n.toNat % 2 ^ 30 = n.toNat := Nat.mod_eq_of_lt (by omega)
      rw [e2] at e1
      exact e1
    rw [e]
    omega
  mono := by
    rw [Go.u64_and n 9223372036854775808 lo (by omega) (by omega) (by omega)]
    have e := nat_high n.toNat (by omega)
    exact congrArg Int.ofNat e
  clear := by
    rw [Go.u64_andNot n 1073741823 lo (by omega) (by omega) (by omega)]
    have e := nat_clear n.toNat (by omega)
    exact congrArg Int.ofNat e
  or := by
    obtain ⟨k, rfl⟩ : ∃ k : Nat, n = (k : Int) := ⟨n.toNat, by omega⟩
    have e := Go.u64_or_nat 0 k (by omega) (by omega)
    rw [Nat.zero_or] at e
    exact e
end Go.Proofs.Ybulkcrca
