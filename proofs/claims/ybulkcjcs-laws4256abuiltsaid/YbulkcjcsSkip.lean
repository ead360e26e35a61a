import Derived.Test.YbulkcjcsWalks
namespace Go.Proofs.Ybulkcjcs
open Go.RowKit

theorem ret_int {k : IntKind} {a b : Int} (h : a = b) : Ending.returned (.int k a) = .returned (.int k b) := by rw [h]

set_option maxHeartbeats 400000 in
theorem skip_at (b off n c : Nat) (zs : List Int) (hz : zs.length = n) (hn : n ≤ 65536) (i : Nat) (hi : i ≤ 65540) (w : World) (hc : ∀ j, j < n → w.cell? ⟨b, off + j, none⟩ = some (.int .u8 (zs.getD j 0))) :
    Calls Yba.prog 6 #[.slice (some ⟨b, off, none⟩) n c, .int .i64 i] w fun e w' => e = .returned (.int .i64 (skipN zs i : Nat)) ∧ w' = w := by
  have HZ : Hid (zs.length = n) := hz
  clear hz
  go_enter Yba.func6, Yba.ntmps6
  go_wp2
  go_loop [1] (fun v => ∃ k : Nat, k ≤ 65540 ∧ v = .int .i64 k ∧ Hid (skipN zs k = skipN zs i)) (fun v => 65541 - (intOf v).toNat)
  case atStart => exact ⟨i, hi, rfl, rfl⟩
  case round =>
    obtain ⟨k, hk, rfl, hs⟩ := hrel
    by_cases hlt : k < n
    · have hck := hc k hlt
      obtain ⟨x, hx⟩ : ∃ x, x = zs.getD k 0 := ⟨_, rfl⟩
      rw [← hx] at hck
      have HX : Hid (x = zs.getD k 0) := hx
      clear hx hc
      cases hb : wsB x with
      | true =>
        go_wp2_with (go_at_call 9; refine (space_any _ _).mono ?_; rintro e w' ⟨rfl, rfl⟩)
        go_round
        case rel => exact ⟨k + 1, by omega, by go_num, show skipN zs (k + 1) = skipN zs i by rw [← skipN_step zs k (by rw [HZ.out]; exact hlt) (by rw [← HX.out]; exact hb)]; exact hs.out⟩
        case measure => simp [intOf]; omega
      | false =>
        go_wp2_with (go_at_call 9; refine (space_any _ _).mono ?_; rintro e w' ⟨rfl, rfl⟩)
        go_ret
        exact ⟨ret_int (by rw [← hs.out, skipN_stop zs k (.inr (by rw [← HX.out]; exact hb))]), rfl⟩
    · go_wp2_with fail
      go_ret
      exact ⟨ret_int (by rw [← hs.out, skipN_stop zs k (.inl (by rw [HZ.out]; omega))]), rfl⟩
set_option maxHeartbeats 400000 in
theorem model_at (b off n c : Nat) (zs : List Int) (hz : zs.length = n) (hn : n ≤ 65536) (i : Nat) (hi : i ≤ 65540) (w : World) (hc : ∀ j, j < n → w.cell? ⟨b, off + j, none⟩ = some (.int .u8 (zs.getD j 0))) :
    Calls Yba.prog 7 #[.slice (some ⟨b, off, none⟩) n c, .int .i64 i] w fun e w' => e = .returned (.int .i64 (skipN zs i : Nat)) ∧ w' = w := by
  have HZ : Hid (zs.length = n) := hz
  clear hz
  go_enter Yba.func7, Yba.ntmps7
  go_wp2
  go_loop [5] (fun v => ∃ k : Nat, k ≤ 65540 ∧ v = .int .i64 k ∧ Hid (skipN zs k = skipN zs i)) (fun v => 65541 - (intOf v).toNat)
  case atStart => exact ⟨i, hi, rfl, rfl⟩
  case round =>
    obtain ⟨k, hk, rfl, hs⟩ := hrel
    by_cases hlt : k < n
    · have hck := hc k hlt
      obtain ⟨x, hx⟩ : ∃ x, x = zs.getD k 0 := ⟨_, rfl⟩
      rw [← hx] at hck
      have HX : Hid (x = zs.getD k 0) := hx
      clear hx hc
      cases hb : wsB x with
      | true =>
        go_wp2_with (go_at_call 8; refine (ws_any _ _).mono ?_; rintro e w' ⟨rfl, rfl⟩)
        go_round
        case rel => exact ⟨k + 1, by omega, by go_num, show skipN zs (k + 1) = skipN zs i by rw [← skipN_step zs k (by rw [HZ.out]; exact hlt) (by rw [← HX.out]; exact hb)]; exact hs.out⟩
        case measure => simp [intOf]; omega
      | false =>
        go_wp2_with (go_at_call 8; refine (ws_any _ _).mono ?_; rintro e w' ⟨rfl, rfl⟩)
        go_ret
        exact ⟨ret_int (by rw [← hs.out, skipN_stop zs k (.inr (by rw [← HX.out]; exact hb))]), rfl⟩
    · go_wp2_with fail
      go_ret
      exact ⟨ret_int (by rw [← hs.out, skipN_stop zs k (.inl (by rw [HZ.out]; omega))]), rfl⟩

theorem skip_none (a : Option Addr) (c : Nat) (i : Nat) (hi : i ≤ 65540) (w : World) :
    Calls Yba.prog 6 #[.slice a 0 c, .int .i64 i] w fun e w' => e = .returned (.int .i64 (skipN [] i : Nat)) ∧ w' = w := by
  have hs := skipN_stop [] i (.inl (Nat.zero_le _))
  have HS : Hid (skipN [] i = i) := hs
  clear hs
  have hd : ¬ ((i : Int) < 0) := by omega
  go_enter Yba.func6, Yba.ntmps6
  go_wp2
  go_loop [1] (fun v => v = .int .i64 i) (fun v => 65541 - (intOf v).toNat)
  case atStart => rfl
  case round =>
    subst hrel
    go_wp2_with fail
    go_ret
    exact ⟨ret_int (by rw [HS.out]), rfl⟩

theorem model_none (a : Option Addr) (c : Nat) (i : Nat) (hi : i ≤ 65540) (w : World) :
    Calls Yba.prog 7 #[.slice a 0 c, .int .i64 i] w fun e w' => e = .returned (.int .i64 (skipN [] i : Nat)) ∧ w' = w := by
  have hs := skipN_stop [] i (.inl (Nat.zero_le _))
  have HS : Hid (skipN [] i = i) := hs
  clear hs
  have hd : ¬ ((i : Int) < 0) := by omega
  go_enter Yba.func7, Yba.ntmps7
  go_wp2
  go_loop [5] (fun v => v = .int .i64 i) (fun v => 65541 - (intOf v).toNat)
  case atStart => rfl
  case round =>
    subst hrel
    go_wp2_with fail
    go_ret
    exact ⟨ret_int (by rw [HS.out]), rfl⟩
end Go.Proofs.Ybulkcjcs
