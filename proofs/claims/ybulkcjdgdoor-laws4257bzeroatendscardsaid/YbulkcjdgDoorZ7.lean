import Derived.Test.YbulkcjdgDoorZ6
namespace Go.Proofs.YbulkcjdgDoor
open Go.RowKit
set_option linter.unusedVariables false
set_option linter.unusedSimpArgs false

theorem and_compl (n a : Nat) (ha : a < 2 ^ n) : a &&& (2 ^ n - 1 - a) = 0 := by
  apply Nat.eq_of_testBit_eq
  intro i
  rw [show 2 ^ n - 1 - a = 2 ^ n - (a + 1) by omega, Nat.testBit_and, Nat.testBit_two_pow_sub_succ ha]
  simp only [Nat.zero_testBit]
  cases a.testBit i <;> simp
/-- The lowest bit. -/
theorem low_bit (n : Nat) : ∀ x, 0 < x → x < 2 ^ n → ∃ k, k < n ∧ x &&& (2 ^ n - x) = 2 ^ k ∧ x % 2 ^ (k + 1) = 2 ^ k := by
  induction n with
  | zero => intro x h1 h2; simp at h2; omega
  | succ n ih =>
    intro x h1 h2
    have hp : 2 ^ (n + 1) = 2 * 2 ^ n := by rw [Nat.pow_succ, Nat.mul_comm]
    have d1 : (x &&& (2 ^ (n + 1) - x)) / 2 = x / 2 &&& (2 ^ (n + 1) - x) / 2 := Nat.and_div_two
    by_cases he : x % 2 = 0
    · obtain ⟨k, hk, h3, h4⟩ := ih (x / 2) (by omega) (by omega)
      have e1 : (2 ^ (n + 1) - x) / 2 = 2 ^ n - x / 2 := by omega
      rw [e1, h3] at d1
      have d2 : (x &&& (2 ^ (n + 1) - x)) % 2 = 0 := by
        have := Nat.and_mod_two_pow (a := x) (b := 2 ^ (n + 1) - x) (n := 1)
        rw [Nat.pow_one, he, Nat.zero_and] at this
        exact this
      refine ⟨k + 1, by omega, ?_, ?_⟩
      · have e3 : 2 ^ (k + 1) = 2 * 2 ^ k := by rw [Nat.pow_succ, Nat.mul_comm]
        rw [e3]
        generalize x &&& (2 ^ (n + 1) - x) = y at d1 d2 ⊢
        generalize 2 ^ k = z at d1 ⊢
        omega
      · have e2 : x = 2 * (x / 2) := by omega
        rw [e2, Nat.pow_succ 2 (k + 1), Nat.mul_comm (2 ^ (k + 1)) 2, Nat.mul_mod_mul_left, h4, Nat.pow_succ 2 k]; omega
    · have e1 : (2 ^ (n + 1) - x) / 2 = 2 ^ n - 1 - x / 2 := by omega
      rw [e1, and_compl n (x / 2) (by omega)] at d1
      have d2 : (x &&& (2 ^ (n + 1) - x)) % 2 = 1 := by
        have := Nat.and_mod_two_pow (a := x) (b := 2 ^ (n + 1) - x) (n := 1)
        rw [Nat.pow_one, show x % 2 = 1 by omega, show (2 ^ (n + 1) - x) % 2 = 1 by omega] at this
        exact this
      exact ⟨0, by omega, by rw [Nat.pow_zero]; omega, by simp; omega⟩
end Go.Proofs.YbulkcjdgDoor
