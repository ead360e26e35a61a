import Derived.Test.YbulkcjdgDoorZ1
import Derived.BigQuiet
namespace Go.Proofs.YbulkcjdgDoor
open Go.RowKit
set_option linter.unusedVariables false
set_option linter.unusedSimpArgs false

theorem andM (j : Nat) (z : Int) (h0 : 0 ≤ z) (h1 : z < 18446744073709551616) (hj : j < 64) : bits .and .u64 z ((2 ^ j - 1 : Nat) : Int) = z % ((2 ^ j : Nat) : Int) := by
  obtain ⟨a, rfl⟩ : ∃ a : Nat, z = a := ⟨z.toNat, by omega⟩
  have hp : 2 ^ j - 1 < 18446744073709551616 := by
    have : 2 ^ j ≤ 2 ^ 63 := Nat.pow_le_pow_right (by omega) (by omega)
    omega
  rw [bits_and_u64_nat a (2 ^ j - 1) (by omega) hp, Nat.and_two_pow_sub_one_eq_mod]
  simp
theorem and3 (z : Int) (h0 : 0 ≤ z) (h1 : z < 18446744073709551616) : bits .and .u64 z 3 = z % 4 := andM 2 z h0 h1 (by omega)
theorem and7 (z : Int) (h0 : 0 ≤ z) (h1 : z < 18446744073709551616) : bits .and .u64 z 7 = z % 8 := andM 3 z h0 h1 (by omega)
theorem and63 (z : Int) (h0 : 0 ≤ z) (h1 : z < 18446744073709551616) : bits .and .u64 z 63 = z % 64 := andM 6 z h0 h1 (by omega)
theorem and31 (z : Int) (h0 : 0 ≤ z) (h1 : z < 18446744073709551616) : bits .and .u64 z 31 = z % 32 := andM 5 z h0 h1 (by omega)

set_option maxRecDepth 100000 in
theorem priced_any (d win : Nat) (hd : d < 18446744073709551616) (hw : win < 18446744073709551616) (w : World) :
    Calls Ybad.prog 15 #[.int .u64 d, .int .u64 win] w fun e w' => ∃ r : Nat, e = .returned (.int .u64 r) ∧ w' = w ∧ r < 18446744073709551616 ∧ (r = 0 ↔ d = 0) := by
  have e3 := and3 d (by omega) (by omega)
  have key : ∀ p : Int, 0 ≤ p → p < 18446744073709551616 → (p = 0 ↔ d = 0) → ∀ q : Int, q = IntKind.u64.wrap (5 * (p / 8) + IntKind.u64.wrap (IntKind.u64.wrap (5 * bits .and .u64 p 7) + 7) / 8) → ∃ r : Nat, q = r ∧ r < 18446744073709551616 ∧ (r = 0 ↔ d = 0) := by
    intro p h0 h1 hp q hq
    rw [and7 p h0 h1] at hq
    have f1 : 0 ≤ p / 8 ∧ p / 8 ≤ 2305843009213693951 := by omega
    have f2 : 0 ≤ p % 8 ∧ p % 8 ≤ 7 := by omega
    have f3 : p = 8 * (p / 8) + p % 8 := by omega
    generalize p / 8 = a at *
    generalize p % 8 = b at *
    simp only [IntKind.wrap_u64] at hq
    rw [Int.emod_eq_of_lt (a := 5 * b) (by omega) (by omega), Int.emod_eq_of_lt (a := 5 * b + 7) (by omega) (by omega), Int.emod_eq_of_lt (by omega) (by omega)] at hq
    exact ⟨q.toNat, by omega, by omega, by omega⟩
  have KEY := hidden key
  clear key
  go_enter Ybad.func15, Ybad.ntmps15
  go_wp2
  · go_ret
    obtain ⟨r, hr, h1, h2⟩ := KEY.out ((d : Int) / 4 + ((d : Int) % 4 + 3) / 4) (by omega) (by omega) (by omega) _ rfl
    exact ⟨r, congrArg (fun z => Ending.returned (.int .u64 z)) hr, rfl, h1, h2⟩
  · go_ret
    obtain ⟨r, hr, h1, h2⟩ := KEY.out ((d : Int) / 4 + ((d : Int) % 4 + 3) / 4) (by omega) (by omega) (by omega) _ rfl
    exact ⟨r, congrArg (fun z => Ending.returned (.int .u64 z)) hr, rfl, h1, h2⟩
  · go_ret
    obtain ⟨r, hr, h1, h2⟩ := KEY.out ((d : Int) - win) (by omega) (by omega) (by omega) _ rfl
    exact ⟨r, congrArg (fun z => Ending.returned (.int .u64 z)) hr, rfl, h1, h2⟩
  · rename_i h9
    rw [if_neg h] at h9
    have h0 : d = 0 := by omega
    have hz : IntKind.u64.wrap (IntKind.u64.wrap (IntKind.u64.wrap (5 * bits BinOp.and IntKind.u64 0 7) + 7) / 8) = 0 := by kernel_rfl
    go_ret
    exact ⟨0, congrArg (fun z => Ending.returned (.int .u64 z)) hz, rfl, by omega, by omega⟩
/-- Whole moves, rounded up. -/
def mv (steps hi lo : Nat) : Nat := hi / 2 ^ steps + (if hi % 2 ^ steps = 0 ∧ lo = 0 then 0 else 1)
theorem shl_wrap (steps hi : Nat) (h : steps ≤ 64) : IntKind.u64.wrap ((hi : Int) * 2 ^ (64 - steps)) = ((hi % 2 ^ steps * 2 ^ (64 - steps) : Nat) : Int) := by
  have e : ((hi : Int) * 2 ^ (64 - steps)) = ((hi * 2 ^ (64 - steps) : Nat) : Int) := by simp
  have p : 2 ^ steps * 2 ^ (64 - steps) = 18446744073709551616 := by rw [← Nat.pow_add, show steps + (64 - steps) = 64 by omega]
  rw [e, wrapM, ← p, Nat.mul_mod_mul_right]
set_option maxRecDepth 100000 in
theorem moves_any (E : Nat) (steps hi lo : Nat) (w : World) (hc : w.cell? ⟨E, 2, none⟩ = some (.int .i64 steps)) (hE : E < w.heap.size) (h2 : 2 ≤ steps) (h30 : steps ≤ 30) (hhi : hi < 18446744073709551616) :
    Calls Ybad.prog 9 #[.pointer (some ⟨E, 0, none⟩), .agg #[.int .u64 hi, .int .u64 lo]] w fun e w' => e = .returned (.int .i64 (mv steps hi lo)) ∧ New w w' := by
  have e63 := and63 steps (by omega) (by omega)
  have e64 : (steps : Int) % 64 = steps := by omega
  rw [e64] at e63
  clear e64
  have f63 := and63 (64 - steps) (by omega) (by omega)
  rw [show (64 - (steps : Int)) % 64 = 64 - steps by omega] at f63
  obtain ⟨q, hq, hqm⟩ : ∃ q : Nat, (hi : Int) / 2 ^ steps = q ∧ q = hi / 2 ^ steps := ⟨hi / 2 ^ steps, by simp, rfl⟩
  have hqb : q ≤ 4611686018427387904 := by
    have : hi / 2 ^ steps ≤ hi / 2 ^ 2 := Nat.div_le_div_left (Nat.pow_le_pow_right (by omega) h2) (by omega)
    omega
  have hsw := shl_wrap steps hi (by omega)
  obtain ⟨z, hz⟩ : ∃ z, z = hi % 2 ^ steps * 2 ^ (64 - steps) := ⟨_, rfl⟩
  rw [← hz] at hsw
  have hz0 : z = 0 ↔ hi % 2 ^ steps = 0 := by
    rw [hz]
    have : 0 < 2 ^ (64 - steps) := Nat.two_pow_pos _
    constructor
    · intro h; rcases Nat.mul_eq_zero.1 h with h | h; exact h; omega
    · intro h; rw [h, Nat.zero_mul]
  unfold mv
  rw [← hqm]
  clear hqm hz
  by_cases h0 : z = 0
  · have hm := hz0.1 h0
    subst h0
    clear hz0
    by_cases hl : lo = 0
    · subst hl
      rw [if_pos ⟨hm, rfl⟩]
      clear hm
      go_enter Ybad.func9, Ybad.ntmps9
      go_wp2
      go_ret
      exact ⟨rfl, (Chg.refl _ w).alloc _⟩
    · rw [if_neg (by rintro ⟨_, h⟩; exact hl h)]
      clear hm
      have hln : ((lo : Int) != 0) = true := by simpa using hl
      go_enter Ybad.func9, Ybad.ntmps9
      go_wp2
      go_ret
      exact ⟨rfl, (Chg.refl _ w).alloc _⟩
  · rw [if_neg (by rintro ⟨h, _⟩; exact h0 (hz0.2 h))]
    clear hz0
    have hzn : ((z : Int) != 0) = true := by simpa using h0
    go_enter Ybad.func9, Ybad.ntmps9
    go_wp2
    go_ret
    exact ⟨rfl, (Chg.refl _ w).alloc _⟩
end Go.Proofs.YbulkcjdgDoor
