import Derived.Test.YbulkcjdgDoorZ11
namespace Go.Proofs.YbulkcjdgDoor
open Go.RowKit
set_option linter.unusedVariables false
set_option linter.unusedSimpArgs false

theorem mv_zero (st : Nat) : mv st 0 0 = 0 := by simp [mv]
theorem mv_nil {st a b : Nat} (h : mv st a b = 0) : a = 0 ∧ b = 0 := by
  unfold mv at h
  split at h
  · rename_i h2
    refine ⟨?_, h2.2⟩
    have h0 : a / 2 ^ st = 0 := by omega
    have := Nat.div_add_mod a (2 ^ st)
    rw [h0, h2.1] at this
    simpa using this.symm
  · exact absurd h (Nat.succ_ne_zero _)
theorem mv_ge (st a b : Nat) : a / 2 ^ st ≤ mv st a b := by unfold mv; omega
theorem mv_mono {st a b c d : Nat} (h : less a b c d = true) : mv st a b ≤ mv st c d := by
  unfold less at h
  simp only [Bool.or_eq_true, Bool.and_eq_true, decide_eq_true_eq] at h
  unfold mv
  rcases h with h | ⟨rfl, h⟩
  · have h1 := Nat.div_add_mod a (2 ^ st)
    have h2 := Nat.div_add_mod c (2 ^ st)
    have hm : a / 2 ^ st ≤ c / 2 ^ st := Nat.div_le_div_right (Nat.le_of_lt h)
    by_cases he : a / 2 ^ st = c / 2 ^ st
    · rw [he] at h1 ⊢
      have : ¬ c % 2 ^ st = 0 := by omega
      rw [if_neg (c := c % 2 ^ st = 0 ∧ d = 0) (fun h => this h.1)]
      split <;> omega
    · split <;> split <;> omega
  · rw [if_neg (c := a % 2 ^ st = 0 ∧ d = 0) (fun h => by omega)]
    split <;> omega
theorem less_trans {a b c d e f : Nat} (h : less a b c d = true) (k : less c d e f = true) : less a b e f = true := by
  simp only [less, Bool.or_eq_true, Bool.and_eq_true, decide_eq_true_eq] at h k ⊢
  omega
theorem less_zero {c d : Nat} (h : ¬ (c = 0 ∧ d = 0)) : less 0 0 c d = true := by
  simp only [less, Bool.or_eq_true, Bool.and_eq_true, decide_eq_true_eq]
  omega
theorem less_nz {a b c d : Nat} (h : less a b c d = true) : ¬ (c = 0 ∧ d = 0) := by
  simp only [less, Bool.or_eq_true, Bool.and_eq_true, decide_eq_true_eq] at h
  omega

/-- What the loops hold of the estimate. -/
structure In (s : Sp) (bh bl : Nat) (hit : Prop) (eh el : Nat) (h : Int) (W : Nat) : Prop where
  wh : W = mv s.steps eh el
  wb : W ≤ s.steps + 1
  e1 : eh < 18446744073709551616
  e2 : el < 18446744073709551616
  st : (h = -1 ∧ eh = bh ∧ el = bl) ∨ (0 ≤ h ∧ h ≤ s.steps ∧ less eh el bh bl = true)
  ms : ¬ hit → ¬ (eh = 0 ∧ el = 0)

/-- The next set of halvings. -/
theorem next_set (x : Nat) (h : 0 < x) : (x &&& (x - 1)) < x ∧ (x &&& (x - 1)) % 2 = 0 := by
  have h1 : x &&& (x - 1) ≤ x - 1 := Nat.and_le_right
  refine ⟨by omega, ?_⟩
  have := Nat.and_mod_two_pow (a := x) (b := x - 1) (n := 1)
  rw [Nat.pow_one] at this
  rw [this]
  rcases Nat.mod_two_eq_zero_or_one x with h2 | h2
  · rw [h2, Nat.zero_and]
  · rw [show (x - 1) % 2 = 0 by omega, Nat.and_zero]
theorem low_lt {x k m : Nat} (h : x % 2 ^ (k + 1) = 2 ^ k) (hx : x < 2 ^ m) : k < m := by
  have h1 : x % 2 ^ (k + 1) ≤ x := Nat.mod_le _ _
  have h2 : 2 ^ k < 2 ^ m := by omega
  exact (Nat.pow_lt_pow_iff_right (by omega)).1 h2
theorem low_even {x k : Nat} (h : x % 2 ^ (k + 1) = 2 ^ k) : k = 0 ↔ x % 2 = 1 := by
  constructor
  · rintro rfl; simpa using h
  · intro hx
    rcases k with _ | k
    · rfl
    · exfalso
      have h1 : x % 2 ^ (k + 1 + 1) % 2 = x % 2 := Nat.mod_mod_of_dvd _ ⟨2 ^ (k + 1), by rw [Nat.pow_succ, Nat.mul_comm]⟩
      rw [h, Nat.pow_succ] at h1
      omega

theorem wrap_id (z : Int) (h0 : 0 ≤ z) (h1 : z < 18446744073709551616) : IntKind.u64.wrap z = z := by rw [IntKind.wrap_u64]; omega
theorem term_of (st k j q d hi lo : Nat) (hst : st ≤ 30) (hks : k ≤ st) (hjk : j + k ≤ 62) (hq1 : 1 ≤ q) (hq : q ≤ 2 ^ st) (hd : d < 18446744073709551616) (hml : hi * 18446744073709551616 + lo = q * d) (hlo : lo < 18446744073709551616) :
    ∃ th tl : Nat, IntKind.u64.wrap (IntKind.u64.wrap (((j : Int) + k) * 2 ^ st) + bits .or .u64 (IntKind.u64.wrap ((hi : Int) * 2 ^ (st - k))) ((lo : Int) / 2 ^ (64 - (st - k)))) = (th : Int) ∧
      IntKind.u64.wrap ((lo : Int) * 2 ^ (st - k)) = (tl : Int) ∧ th < 18446744073709551616 ∧ tl < 18446744073709551616 ∧ j + k ≤ th / 2 ^ st ∧ (th = 0 ∧ tl = 0 ↔ j + k = 0 ∧ d = 0) := by
  obtain ⟨s, hs⟩ : ∃ s : Nat, st - k = s := ⟨_, rfl⟩
  rw [hs]
  have hP : 2 ^ st ≤ 1073741824 := Nat.pow_le_pow_right (n := 2) (by omega) hst
  have hS : 2 ^ s ≤ 1073741824 := Nat.pow_le_pow_right (n := 2) (by omega) (show s ≤ 30 by omega)
  have hS0 : 0 < 2 ^ s := Nat.two_pow_pos _
  have hP0 : 0 < 2 ^ st := Nat.two_pow_pos _
  have hqd : q * d < 1073741824 * 18446744073709551616 := Nat.mul_lt_mul_of_le_of_lt (Nat.le_trans hq hP) hd (by omega)
  have hhi : hi < 1073741824 := by omega
  have hX : hi * 2 ^ s < 1073741824 * 1073741824 := Nat.mul_lt_mul_of_lt_of_le hhi hS (by omega)
  have hJ : (j + k) * 2 ^ st ≤ 62 * 1073741824 := Nat.mul_le_mul hjk hP
  have hSS : 2 ^ s * 2 ^ (64 - s) = 18446744073709551616 := by rw [← Nat.pow_add, show s + (64 - s) = 64 by omega]
  have hY : lo / 2 ^ (64 - s) < 2 ^ s := by
    rw [Nat.div_lt_iff_lt_mul (Nat.two_pow_pos _), hSS]; exact hlo
  have f1 : IntKind.u64.wrap ((hi : Int) * 2 ^ s) = ((hi * 2 ^ s : Nat) : Int) := by
    rw [show (hi : Int) * 2 ^ s = ((hi * 2 ^ s : Nat) : Int) by simp, wrap_id] <;> omega
  have f2 : (lo : Int) / 2 ^ (64 - s) = ((lo / 2 ^ (64 - s) : Nat) : Int) := by simp
  have f3 : IntKind.u64.wrap (((j : Int) + k) * 2 ^ st) = (((j + k) * 2 ^ st : Nat) : Int) := by
    rw [show ((j : Int) + k) * 2 ^ st = (((j + k) * 2 ^ st : Nat) : Int) by simp, wrap_id] <;> omega
  have f4 : IntKind.u64.wrap ((lo : Int) * 2 ^ s) = ((lo * 2 ^ s % 18446744073709551616 : Nat) : Int) := by
    rw [show (lo : Int) * 2 ^ s = ((lo * 2 ^ s : Nat) : Int) by simp]
    exact wrapM _
  have f5 : bits .or .u64 ((hi * 2 ^ s : Nat) : Int) ((lo / 2 ^ (64 - s) : Nat) : Int) = ((hi * 2 ^ s ||| lo / 2 ^ (64 - s) : Nat) : Int) := u64_or_nat _ _ (by omega) (by omega)
  have hO : hi * 2 ^ s ||| lo / 2 ^ (64 - s) < 2 ^ 60 := Nat.or_lt_two_pow (by omega) (by omega)
  have hL := Nat.left_le_or (n := hi * 2 ^ s) (m := lo / 2 ^ (64 - s))
  have hR := Nat.right_le_or (n := hi * 2 ^ s) (m := lo / 2 ^ (64 - s))
  have z1 : hi * 2 ^ s = 0 → hi = 0 := fun h => (Nat.mul_eq_zero.1 h).elim id (fun h => absurd h (Nat.ne_of_gt hS0))
  have z2 : lo / 2 ^ (64 - s) = 0 → lo * 2 ^ s % 18446744073709551616 = 0 → lo = 0 := fun h g => by
    have h3 : lo < 2 ^ (64 - s) := (Nat.div_eq_zero_iff.1 h).elim (fun h => absurd h (Nat.ne_of_gt (Nat.two_pow_pos _))) id
    have h4 : lo * 2 ^ s < 18446744073709551616 := by
      rw [← hSS, Nat.mul_comm (2 ^ s)]
      exact Nat.mul_lt_mul_of_pos_right h3 hS0
    rw [Nat.mod_eq_of_lt h4] at g
    exact (Nat.mul_eq_zero.1 g).elim id (fun h => absurd h (Nat.ne_of_gt hS0))
  have z3 : (j + k) * 2 ^ st = 0 → j + k = 0 := fun h => (Nat.mul_eq_zero.1 h).elim id (fun h => absurd h (Nat.ne_of_gt hP0))
  have z4 : hi = 0 → lo = 0 → d = 0 := fun h g => by
    rw [h, g, Nat.zero_mul] at hml
    exact (Nat.mul_eq_zero.1 hml.symm).elim (fun h => by omega) id
  have z5 : d = 0 → hi = 0 ∧ lo = 0 := fun h => by
    rw [h, Nat.mul_zero] at hml
    omega
  rw [f1, f2, f3, f4, f5]
  refine ⟨(j + k) * 2 ^ st + (hi * 2 ^ s ||| lo / 2 ^ (64 - s)), lo * 2 ^ s % 18446744073709551616, ?_, rfl, ?_, Nat.mod_lt _ (by decide), ?_, ?_⟩
  · rw [← Int.natCast_add, wrap_id] <;> omega
  · omega
  · rw [Nat.le_div_iff_mul_le hP0]; omega
  · constructor
    · rintro ⟨h1, h2⟩
      have g1 := z3 (by omega)
      have g2 := z1 (by omega)
      have hX0 : (hi * 2 ^ s ||| lo / 2 ^ (64 - s)) = 0 := by omega
      have g3 := z2 (Nat.le_zero.1 (hX0 ▸ hR)) h2
      exact ⟨g1, z4 g2 g3⟩
    · rintro ⟨h1, h2⟩
      obtain ⟨g1, g2⟩ := z5 h2
      rw [h1, g1, g2]
      simp
theorem set2 (w : World) (b : Nat) (x y u v : Value) (t : TypeId) (h : w.heap[b]? = some (.cells #[x, y] t)) : ((w.setCell ⟨b, 0, none⟩ u).setCell ⟨b, 1, none⟩ v).heap[b]? = some (.cells #[u, v] t) := by
  rw [setCell_eq_setRow w b 0 _ t (0, 0) u h]
  have h1 := setRow_heap w b _ ((#[x, y] : Array Value).setIfInBounds 0 u) t _ h
  rw [setCell_eq_setRow _ b 1 _ t (0, 0) v h1]
  exact setRow_heap _ b _ _ t _ h1
end Go.Proofs.YbulkcjdgDoor
