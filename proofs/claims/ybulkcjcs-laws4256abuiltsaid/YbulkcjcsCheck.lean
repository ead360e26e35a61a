import Derived.Test.YbulkcjcsSkip
import Derived.Laws.CopyOwn
import Derived.Deep.OwnRows
import Derived.WalkSmall
namespace Go.Proofs.Ybulkcjcs
open Go.RowKit
open Go.Deep

theorem Yba.info5 : (Yba.prog.info? 5).map (fun i => (i.zero, i.size, i.bytes)) = some (some (.int .u8 0), 1, 1) := by kernel_rfl
theorem Yba.size5 : (Yba.prog.info? 5).map (·.size) = some 1 := by kernel_rfl

theorem new_block (w : World) (n : Nat) : (w.alloc (.cells (madeCells #[.int .u8 0] n) 5)).heap[w.heap.size]? = some (.cells (List.replicate n (.int .u8 0)).toArray 5 (0, 0)) := by
  rw [blk_alloc_new, ← toList_madeCells_one]
theorem splice_all {cs : List Value} {n : Nat} {z : Value} (h : cs.length = n) : splice (List.replicate n z) 0 cs = cs := by
  unfold splice; simp [h]
theorem block_cell {w1 : World} {g : Nat} {zs : List Int} (h : w1.heap[g]? = some (.cells (zs.map (Value.int .u8)).toArray 5 (0, 0))) (j : Nat) (hj : j < zs.length) : w1.cell? ⟨g, j, none⟩ = some (.int .u8 (zs.getD j 0)) := by
  simp [World.cell?, h, hj]

set_option maxHeartbeats 400000 in
theorem check_at (b off n c : Nat) (zs : List Int) (hz : zs.length = n) (hn : n ≤ 65536) (i : Nat) (hi : i ≤ 65540) (w : World) (hb : b < w.heap.size) (hc : ∀ j, j < n → w.cell? ⟨b, off + j, none⟩ = some (.int .u8 (zs.getD j 0))) :
    Calls Yba.prog 5 #[.slice (some ⟨b, off, none⟩) n c, .int .i64 i] w fun e w' => e = .returned (.bool true) ∧ Below w.heap.size w w' := by
  have HZ : Hid (zs.length = n) := hz
  have hmk := run_make_row' (P := Yba.prog) 22 5 (.int .u8 0) 1 Yba.underlying22 Yba.info5 rfl .i64 .i64 n (by omega) (by omega)
  have hR1 := skipN_ge zs i
  have hR2 := skipN_le zs i
  rw [hz] at hR2
  have HW := skipN_ws zs i
  obtain ⟨r, hr⟩ : ∃ r, r = skipN zs i := ⟨_, rfl⟩
  rw [← hr] at hR1 hR2 HW
  have HR : Hid (skipN zs i = r) := hr.symm
  have HWW := HW
  have HW : Hid (∀ k, i ≤ k → k < r → wsB (zs.getD k 0) = true) := HWW
  clear hz hr HWW
  have hdr : decide (r < i) = false := by simpa using hR1
  go_enter Yba.func5, Yba.ntmps5
  go_wp2_with ((refine wpList_copy_splice rfl (.tmp 12) (.tmp 13) 22 22 rfl 5 Yba.underlying22 Yba.size5 _ _ _ _ _ _ rfl rfl w.heap.size 0 (List.replicate n (.int .u8 0)) 5 (new_block w n) (zs.map (Value.int .u8)) ?c1 ?c2 ?c3 (ints_oneCell _ _) w.heap.size w ((Below.refl _ _).alloc (Nat.le_refl _) _) (Nat.le_refl _) ?_))
  case c1 => rw [List.length_map, HZ.out]; exact (Nat.min_self n).symm
  case c2 =>
    intro _ j x hj
    obtain ⟨hl, hv⟩ := List.getElem?_eq_some_iff.1 hj
    subst hv
    have := hc j (by rw [← HZ.out]; exact hl)
    simpa [hl] using this
  case c3 => simp [HZ.out]
  intro w1 HG hB
  have hd : ∀ j, j < n → w1.cell? ⟨b, off + j, none⟩ = some (.int .u8 (zs.getD j 0)) := fun j hj => (hB.cell (p := ⟨b, off + j, none⟩) hb).trans (hc j hj)
  have ho : ∀ j, j < n → w1.cell? ⟨w.heap.size, j, none⟩ = some (.int .u8 (zs.getD j 0)) := fun j hj => block_cell (by rw [HG.out, splice_all (by simp [HZ.out])]) j (by rw [HZ.out]; exact hj)
  clear hc HG hmk
  go_wp2_with (first | (go_at_call 6; refine (skip_at b off n c zs HZ.out hn i hi w1 hd).mono ?_; rw [HR.out]; rintro e w9 ⟨rfl, hw9⟩; have hw8 := hw9.symm; subst hw8) | (go_at_call 7; refine (model_at b off n c zs HZ.out hn i hi _ hd).mono ?_; rw [HR.out]; rintro e w9 ⟨rfl, hw9⟩; have hw8 := hw9.symm; subst hw8))
  go_loop [7] (fun v => ∃ k : Nat, i ≤ k ∧ k ≤ r ∧ v = .int .i64 k) (fun v => r - (intOf v).toNat)
  case atStart => exact ⟨i, Nat.le_refl _, hR1, rfl⟩
  case round =>
    obtain ⟨k, hk1, hk2, rfl⟩ := hrel
    by_cases hlt : k < r ∧ k < n
    · obtain ⟨hkr, hkn⟩ := hlt
      have hck := hd k hkn
      obtain ⟨x, hx⟩ : ∃ x, x = zs.getD k 0 := ⟨_, rfl⟩
      rw [← hx] at hck
      have hws : wsB x = true := by rw [hx]; exact HW.out k hk1 hkr
      clear hx hd ho
      go_wp2_with (go_at_call 8; refine (ws_any _ _).mono ?_; rintro e w9 ⟨rfl, hw9⟩; have hw8 := hw9.symm; subst hw8)
      go_round
      case rel => exact ⟨k + 1, by omega, by omega, by go_num⟩
      case measure => simp [intOf]; omega
    · have hex : k = r ∨ n ≤ k := by omega
      clear hlt
      by_cases hkr : k < r
      all_goals
        go_wp2_with fail
        go_loopw [8] (fun v wr => ∃ k m : Nat, k ≤ n ∧ v = .int .i64 k ∧ wr = w1.drewN m) (fun v _ => n - (intOf v).toNat)
        case atStart => exact ⟨0, 0, Nat.zero_le _, rfl, rfl⟩
        case round =>
          obtain ⟨q, m, hq, rfl, rfl⟩ := hrel
          by_cases hqn : q < n
          · have hck := hd q hqn
            have hok := ho q hqn
            obtain ⟨x, hx⟩ : ∃ x, x = zs.getD q 0 := ⟨_, rfl⟩
            rw [← hx] at hck hok
            clear hx hd ho
            have hqn' : (q : Int) < (n : Int) := by omega
            have hq0 : (0 : Int) ≤ (q : Int) := by omega
            go_wp2
            go_quiet (fail)
            go_wp2
            go_roundw
            case rel => exact ⟨q + 1, _, by omega, by go_num, rfl⟩
            case measure => simp [intOf]; omega
          · go_wp2
            go_ret
            exact ⟨rfl, below_drewN hB m⟩

set_option maxHeartbeats 400000 in
theorem check_none (a : Option Addr) (c : Nat) (i : Nat) (hi : i ≤ 65540) (w : World) :
    Calls Yba.prog 5 #[.slice a 0 c, .int .i64 i] w fun e w' => e = .returned (.bool true) ∧ Below w.heap.size w w' := by
  have hmk := run_make_row' (P := Yba.prog) 22 5 (.int .u8 0) 1 Yba.underlying22 Yba.info5 rfl .i64 .i64 0 (by omega) (by omega)
  rw [show ((0 : Nat) : Int) = 0 from rfl] at hmk
  have hs := skipN_stop [] i (.inl (Nat.zero_le _))
  have HS : Hid (skipN [] i = i) := hs
  clear hs
  have hdr : decide (i < i) = false := by simp
  have hB : Below w.heap.size w (w.alloc (.cells (madeCells #[.int .u8 0] 0) 5)) := (Below.refl _ _).alloc (Nat.le_refl _) _
  have hfi : ¬ ((i : Int) < 0) := by omega
  go_enter Yba.func5, Yba.ntmps5
  go_wp2_with (first | (go_at_call 6; refine (skip_none a c i hi _).mono ?_; rw [HS.out]; rintro e w9 ⟨rfl, hw9⟩; have hw8 := hw9.symm; subst hw8) | (go_at_call 7; refine (model_none a c i hi _).mono ?_; rw [HS.out]; rintro e w9 ⟨rfl, hw9⟩; have hw8 := hw9.symm; subst hw8) | (refine wpList_copy_nothing rfl (.tmp 12) (.tmp 13) 22 22 rfl 5 Yba.underlying22 Yba.size5 _ _ _ _ _ _ rfl rfl rfl ?_))
  go_loop [7] (fun v => v = .int .i64 i) (fun v => i - (intOf v).toNat)
  case atStart => rfl
  case round =>
    subst hrel
    go_wp2_with fail
    go_loop [8] (fun v => v = .int .i64 0) (fun v => 0)
    case atStart => rfl
    case round =>
      subst hrel
      go_wp2
      go_ret
      exact ⟨rfl, hB⟩
end Go.Proofs.Ybulkcjcs
