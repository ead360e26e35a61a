import Derived.Test.YbulkcjdgDoorZ2
namespace Go.Proofs.YbulkcjdgDoor
open Go.RowKit
set_option linter.unusedVariables false
set_option linter.unusedSimpArgs false

theorem mul64e (x y : Nat) (hx : x < 18446744073709551616) (hy : y < 18446744073709551616) :
    ∃ hi lo : Nat, hi * 18446744073709551616 + lo = x * y ∧ hi < 18446744073709551616 ∧ lo < 18446744073709551616 ∧ ∀ w : World, Hid (Calls Ybad.prog 17 #[.int .u64 x, .int .u64 y] w fun e w' => e = .returned (.tuple #[.int .u64 hi, .int .u64 lo]) ∧ w' = w) := by
  refine ⟨x * y / 18446744073709551616, x * y % 18446744073709551616, ?_, ?_, Nat.mod_lt _ (by decide), fun w => hidden (mul64 x y hx hy w)⟩
  · rw [Nat.mul_comm (x * y / 18446744073709551616), Nat.div_add_mod]
  · have : x * y < 18446744073709551616 * 18446744073709551616 := Nat.mul_lt_mul'' hx hy
    exact Nat.div_lt_of_lt_mul this

set_option maxRecDepth 100000 in
theorem steered_any (E win j : Nat) (w : World) (hc : w.cell? ⟨E, 11, none⟩ = some (.int .u64 win)) (hw : win < 18446744073709551616) (hj : j ≤ 62) :
    Calls Ybad.prog 16 #[.pointer (some ⟨E, 0, none⟩), .int .i64 j] w fun e w' => ∃ r : Nat, e = .returned (.int .u64 r) ∧ w' = w ∧ r < 18446744073709551616 := by
  have e63 := and63 j (by omega) (by omega)
  rw [show (j : Int) % 64 = j by omega] at e63
  obtain ⟨p, hp, hpb⟩ : ∃ p : Nat, (2 : Int) ^ j = (p : Int) + 1 ∧ p < 9223372036854775808 := by
    have h1 : 2 ^ j ≤ 2 ^ 62 := Nat.pow_le_pow_right (by omega) hj
    have h2 : 0 < 2 ^ j := Nat.two_pow_pos _
    have h3 : ((2 : Int) ^ j) = ((2 ^ j : Nat) : Int) := by simp
    exact ⟨2 ^ j - 1, by omega, by omega⟩
  obtain ⟨hi, lo, _, _, hlo, HM⟩ := mul64e win p hw (by omega)
  by_cases h0 : hi = 0
  · subst h0
    go_enter Ybad.func16, Ybad.ntmps16
    go_wp2_with (go_at_call 17; refine (HM w).out.mono ?_; rintro e w9 ⟨rfl, hw9⟩; have hw8 := hw9.symm; subst hw8)
    go_ret
    exact ⟨_, rfl, rfl, hlo⟩
  · have hd : ((hi : Int) != 0) = true := by simpa using h0
    go_enter Ybad.func16, Ybad.ntmps16
    go_wp2_with (go_at_call 17; refine (HM w).out.mono ?_; rintro e w9 ⟨rfl, hw9⟩; have hw8 := hw9.symm; subst hw8)
    go_ret
    exact ⟨18446744073709551615, rfl, rfl, by omega⟩
end Go.Proofs.YbulkcjdgDoor
