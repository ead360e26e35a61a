import Derived.Test.YbulkcjdgRouteAny
import Derived.Handy
namespace Go.Proofs.Ybulkcjdg
open Go.RowKit
set_option linter.unusedVariables false

theorem ret_int {k : IntKind} {a b : Int} (h : a = b) : Ending.returned (.int k a) = .returned (.int k b) := by rw [h]

set_option maxHeartbeats 400000 in
theorem moves19 (g cap n : Nat) (l : List Int) (hl : l.length = n) (h1 : 1 ≤ n) (h2 : n ≤ 100000) (w : World) (hc : ∀ j, j < n → w.cell? ⟨g, j, none⟩ = some (.int .i64 (l.getD j 0))) :
    Calls Yba.prog 19 #[.slice (some ⟨g, 0, none⟩) n cap] w fun e w' => e = .returned (.int .i64 (mv l : Nat)) ∧ ∃ m, w' = w.drewN m := by
  have HL : Hid (l.length = n) := hl
  clear hl
  go_enter Yba.func19, Yba.ntmps19
  go_wp2
  go_loopw [3, 4] (fun s i wr => ∃ j m : Nat, j + 1 ≤ n ∧ i = .int .i64 ((j : Int) + 1) ∧ s = .int .i64 (mvTo l j : Nat) ∧ wr = w.drewN m) (fun _ i _ => n + 1 - (intOf i).toNat)
  case atStart => exact ⟨0, 0, by omega, rfl, rfl, rfl⟩
  case round =>
    obtain ⟨j, m, hj, rfl, rfl, rfl⟩ := hrel
    have hb := mvTo_le l j
    by_cases hlt : j + 1 < n
    · have ha := hc (j + 1) hlt
      have hbb := hc j (by omega)
      obtain ⟨x, hx⟩ : ∃ x, x = l.getD (j + 1) 0 := ⟨_, rfl⟩
      obtain ⟨y, hy⟩ : ∃ y, y = l.getD j 0 := ⟨_, rfl⟩
      rw [← hx] at ha
      rw [← hy] at hbb
      have HS : Hid (mvTo l (j + 1) = mvTo l j + if x = y then 0 else 1) := by show _ = _; rw [hx, hy]; rfl
      clear hx hy hc
      have hi1 : ((j : Int) + 1) < (n : Int) := by omega
      have hi2 : (0 : Int) ≤ (j : Int) + 1 := by omega
      have hi3 : ((j : Int) + 1 - 1) = (j : Int) := by omega
      have hi4 : (j : Int) < (n : Int) := by omega
      by_cases hxy : x = y
      · subst hxy
        go_wp2
        go_quiet (fail)
        go_wp2
        go_roundw
        case rel => exact ⟨j + 1, _, by omega, by go_num, by rw [HS.out]; simp, rfl⟩
        case measure => simp [intOf]; omega
      · have hne : (x != y) = true := by simpa using hxy
        go_wp2
        go_quiet (fail)
        go_wp2
        go_roundw
        case rel => exact ⟨j + 1, _, by omega, by go_num, by rw [HS.out, if_neg hxy]; go_num, rfl⟩
        case measure => simp [intOf]; omega
    · have HE : Hid (mv l = mvTo l j) := by show _ = _; unfold mv; rw [HL.out, show n - 1 = j by omega]
      go_wp2
      go_ret
      exact ⟨ret_int (by rw [HE.out]), m, rfl⟩

set_option maxHeartbeats 400000 in
theorem moves26 (g cap n : Nat) (l : List Int) (hl : l.length = n) (h1 : 1 ≤ n) (h2 : n ≤ 100000) (w : World) (hc : ∀ j, j < n → w.cell? ⟨g, j, none⟩ = some (.int .i64 (l.getD j 0))) :
    Calls Yba.prog 26 #[.slice (some ⟨g, 0, none⟩) n cap] w fun e w' => e = .returned (.int .i64 (mv l : Nat)) ∧ ∃ m, w' = w.drewN m := by
  have HL : Hid (l.length = n) := hl
  clear hl
  go_enter Yba.func26, Yba.ntmps26
  go_wp2
  go_loopw [3, 4] (fun s i wr => ∃ j m : Nat, j + 1 ≤ n ∧ i = .int .i64 ((j : Int) + 1) ∧ s = .int .i64 (mvTo l j : Nat) ∧ wr = w.drewN m) (fun _ i _ => n + 1 - (intOf i).toNat)
  case atStart => exact ⟨0, 0, by omega, rfl, rfl, rfl⟩
  case round =>
    obtain ⟨j, m, hj, rfl, rfl, rfl⟩ := hrel
    have hb := mvTo_le l j
    by_cases hlt : j + 1 < n
    · have ha := hc (j + 1) hlt
      have hbb := hc j (by omega)
      obtain ⟨x, hx⟩ : ∃ x, x = l.getD (j + 1) 0 := ⟨_, rfl⟩
      obtain ⟨y, hy⟩ : ∃ y, y = l.getD j 0 := ⟨_, rfl⟩
      rw [← hx] at ha
      rw [← hy] at hbb
      have HS : Hid (mvTo l (j + 1) = mvTo l j + if x = y then 0 else 1) := by show _ = _; rw [hx, hy]; rfl
      clear hx hy hc
      have hi1 : ((j : Int) + 1) < (n : Int) := by omega
      have hi2 : (0 : Int) ≤ (j : Int) + 1 := by omega
      have hi3 : ((j : Int) + 1 - 1) = (j : Int) := by omega
      have hi4 : (j : Int) < (n : Int) := by omega
      by_cases hxy : x = y
      · subst hxy
        go_wp2
        go_quiet (fail)
        go_wp2
        go_roundw
        case rel => exact ⟨j + 1, _, by omega, by go_num, by rw [HS.out]; simp, rfl⟩
        case measure => simp [intOf]; omega
      · have hne : (y != x) = true := by simpa using fun h => hxy h.symm
        go_wp2
        go_quiet (fail)
        go_wp2
        go_roundw
        case rel => exact ⟨j + 1, _, by omega, by go_num, by rw [HS.out, if_neg hxy]; go_num, rfl⟩
        case measure => simp [intOf]; omega
    · have HE : Hid (mv l = mvTo l j) := by show _ = _; unfold mv; rw [HL.out, show n - 1 = j by omega]
      go_wp2
      go_ret
      exact ⟨ret_int (by rw [HE.out]), m, rfl⟩

/-- slices.Equal at two slices that hold the same numbers. -/
theorem equal_some (b1 o1 b2 o2 c1 c2 n : Nat) (f : Nat → Int) (hn : n ≤ 1000000) (w : World) (h1 : ∀ j, j < n → w.cell? ⟨b1, o1 + j, none⟩ = some (.int .i64 (f j))) (h2 : ∀ j, j < n → w.cell? ⟨b2, o2 + j, none⟩ = some (.int .i64 (f j))) :
    Calls Yba.prog 20 #[.slice (some ⟨b1, o1, none⟩) n c1, .slice (some ⟨b2, o2, none⟩) n c2] w fun e w' => e = .returned (.bool true) ∧ ∃ m, w' = w.drewN m := by
  go_enter Yba.func20, Yba.ntmps20
  go_wp2
  go_loopw [13] (fun i wr => ∃ k m : Nat, k ≤ n ∧ i = .int .i64 k ∧ wr = w.drewN m) (fun i _ => n - (intOf i).toNat)
  case atStart => exact ⟨0, 0, by omega, rfl, rfl⟩
  case round =>
    obtain ⟨k, m, hk, rfl, rfl⟩ := hrel
    by_cases hlt : k < n
    · have ha := h1 k hlt
      have hb := h2 k hlt
      obtain ⟨x, hx⟩ : ∃ x, x = f k := ⟨_, rfl⟩
      rw [← hx] at ha hb
      clear hx h1 h2
      have hi1 : (k : Int) < (n : Int) := by omega
      have hi2 : (0 : Int) ≤ (k : Int) := by omega
      go_wp2
      go_quiet (fail)
      go_wp2
      go_roundw
      case rel => exact ⟨k + 1, _, by omega, by go_num, rfl⟩
      case measure => simp [intOf]; omega
    · go_wp2
      go_ret
      exact ⟨rfl, m, rfl⟩
theorem equal_none (a1 a2 : Option Addr) (c1 c2 : Nat) (w : World) :
    Calls Yba.prog 20 #[.slice a1 0 c1, .slice a2 0 c2] w fun e w' => e = .returned (.bool true) ∧ ∃ m, w' = w.drewN m := by
  go_enter Yba.func20, Yba.ntmps20
  go_wp2
  go_loop [13] (fun i => i = .int .i64 0) (fun _ => 0)
  case atStart => rfl
  case round =>
    subst hrel
    go_wp2
    go_ret
    exact ⟨rfl, 0, rfl⟩
end Go.Proofs.Ybulkcjdg
