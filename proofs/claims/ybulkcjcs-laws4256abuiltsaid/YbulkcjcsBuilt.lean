import Derived.Test.YbulkcjcsRaw
namespace Go.Proofs.Ybulkcjcs
open Go.RowKit
open Go.Deep

theorem row_put {w : World} {b n : Nat} {g : Nat → Int} (h : w.rowIs b 5 n (fun j => .int .u8 (g j))) (k : Nat) (x : Int) : ∃ g' : Nat → Int, (w.setCell ⟨b, k, none⟩ (.int .u8 x)).rowIs b 5 n (fun j => .int .u8 (g' j)) :=
  ⟨fun j => if j = k then x else g j, (h.set k (.int .u8 x)).congr fun j _ => by by_cases hj : j = k <;> simp [hj]⟩
theorem row_list {w : World} {b n : Nat} {g : Nat → Int} (h : w.rowIs b 5 n (fun j => .int .u8 (g j))) : ∃ ds : List Int, ds.length = n ∧ ∀ j, j < n → w.cell? ⟨b, 0 + j, none⟩ = some (.int .u8 (ds.getD j 0)) :=
  ⟨(List.range n).map g, by simp, fun j hj => by rw [Nat.zero_add, h.cell hj]; simp [hj]⟩

set_option maxHeartbeats 400000 in
theorem built_at (b off n c : Nat) (zs : List Int) (hz : zs.length = n) (hn : n ≤ 65536) (hwz : ∀ x ∈ zs, (Lit.int .u8 x).wf = true) (a1 : Int) (bd0 : 0 ≤ a1) (bd1 : a1 ≤ 18446744073709551615) (w : World) (hb : b < w.heap.size) (hc : ∀ j, j < n → w.cell? ⟨b, off + j, none⟩ = some (.int .u8 (zs.getD j 0))) :
    Calls Yba.prog 4 #[.slice (some ⟨b, off, none⟩) n c, .int .u64 a1] w fun e w' => e = .returned (.bool true) ∧ Below w.heap.size w w' := by
  have hmk := run_make_row' (P := Yba.prog) 22 5 (.int .u8 0) 1 Yba.underlying22 Yba.info5 rfl .i64 .i64 n (by omega) (by omega)
  have HZ : Hid (zs.length = n) := hz
  have HW : Hid (∀ x ∈ zs, (Lit.int .u8 x).wf = true) := hwz
  clear hz hwz
  have h0 : (w.alloc (.cells (madeCells #[.int .u8 0] n) 5)).rowIs w.heap.size 5 n (fun _ => .int .u8 0) := World.rowIs_made w (.int .u8 0) n 5
  have hB0 : Below w.heap.size w (w.alloc (.cells (madeCells #[.int .u8 0] n) 5)) := (Below.refl _ _).alloc (Nat.le_refl _) _
  go_enter Yba.func4, Yba.ntmps4
  go_wp2
  go_loopw [6] (fun v wr => ∃ k : Nat, k ≤ n ∧ v = .int .i64 k ∧ Below w.heap.size w wr ∧ ∃ g : Nat → Int, wr.rowIs w.heap.size 5 n (fun j => .int .u8 (g j))) (fun v _ => n - (intOf v).toNat)
  case atStart => exact ⟨0, Nat.zero_le _, rfl, hB0, fun _ => 0, h0⟩
  case round =>
    obtain ⟨k, hk, rfl, hB, g, hg⟩ := hrel
    clear h0 hB0 hmk
    by_cases hkn : k < n
    · have hck := (hB.cell (p := ⟨b, off + k, none⟩) hb).trans (hc k hkn)
      have hlen : k < zs.length := by rw [HZ.out]; exact hkn
      obtain ⟨x, hx⟩ : ∃ x, x = zs.getD k 0 := ⟨_, rfl⟩
      rw [← hx] at hck
      have hxb : 0 ≤ x ∧ x ≤ 255 := bounds_u8 (HW.out x (by rw [hx]; simp [hlen]))
      obtain ⟨hx0, hx1⟩ := hxb
      have hdst := hg.cell (i := k) hkn
      have hfz := hg.frozen k
      clear hx hc
      go_wp2
      go_roundw
      case rel => exact ⟨k + 1, by omega, by go_num, hB.setCell (Nat.le_refl _) _, row_put hg k _⟩
      case measure => simp [intOf]; omega
    · obtain ⟨ds, hds, hdc⟩ := row_list hg
      have hlt := hg.lt
      have fin : ∀ w', Below wr.heap.size wr w' → Below w.heap.size w w' := fun w' h => hB.trans (h.mono hB.size)
      have HDS : Hid (ds.length = n) := hds
      clear hds hg hc
      by_cases hge : (n : Int) + 3 ≤ a1
      · obtain ⟨j, hj, hjl⟩ := rem_nat a1 n
        have HJ : Hid (a1 % ((n : Int) + 3) = j) := hj
        have hj0 : 0 ≤ a1 % ((n : Int) + 3) := by omega
        have hj1 : a1 % ((n : Int) + 3) < 65540 := by omega
        clear hj
        go_wp2_with fail
        rw [HJ.out]
        refine (check_at w.heap.size 0 n n ds HDS.out hn j (by omega) wr hlt hdc).mono ?_
        rintro e w' ⟨rfl, hB'⟩
        go_wp2_with fail
        go_ret
        exact ⟨rfl, fin _ hB'⟩
      · obtain ⟨j, rfl⟩ := Int.eq_ofNat_of_zero_le bd0
        go_wp2_with fail
        refine (check_at w.heap.size 0 n n ds HDS.out hn j (by omega) wr hlt hdc).mono ?_
        rintro e w' ⟨rfl, hB'⟩
        go_wp2_with fail
        go_ret
        exact ⟨rfl, fin _ hB'⟩

set_option maxHeartbeats 400000 in
theorem built_none (a : Option Addr) (c : Nat) (a1 : Int) (bd0 : 0 ≤ a1) (bd1 : a1 ≤ 18446744073709551615) (w : World) :
    Calls Yba.prog 4 #[.slice a 0 c, .int .u64 a1] w fun e w' => e = .returned (.bool true) ∧ Below w.heap.size w w' := by
  have hmk := run_make_row' (P := Yba.prog) 22 5 (.int .u8 0) 1 Yba.underlying22 Yba.info5 rfl .i64 .i64 0 (by omega) (by omega)
  rw [show ((0 : Nat) : Int) = 0 from rfl] at hmk
  have hB0 : Below w.heap.size w (w.alloc (.cells (madeCells #[.int .u8 0] 0) 5)) := (Below.refl _ _).alloc (Nat.le_refl _) _
  have fin : ∀ w', Below (w.alloc (.cells (madeCells #[.int .u8 0] 0) 5)).heap.size (w.alloc (.cells (madeCells #[.int .u8 0] 0) 5)) w' → Below w.heap.size w w' := fun w' h => hB0.trans (h.mono hB0.size)
  have FIN : Hid (∀ w', Below (w.alloc (.cells (madeCells #[.int .u8 0] 0) 5)).heap.size (w.alloc (.cells (madeCells #[.int .u8 0] 0) 5)) w' → Below w.heap.size w w') := fin
  clear fin hB0
  by_cases hge : 3 ≤ a1
  · obtain ⟨j, hj, hjl⟩ := rem_nat a1 0
    simp only [Int.natCast_zero, Int.zero_add] at hj
    have HJ : Hid (a1 % 3 = j) := hj
    have hj0 : 0 ≤ a1 % 3 := by omega
    have hj1 : a1 % 3 < 65540 := by omega
    clear hj
    go_enter Yba.func4, Yba.ntmps4
    go_wp2
    go_loop [6] (fun v => v = .int .i64 0) (fun v => 0)
    case atStart => rfl
    case round =>
      subst hrel
      go_wp2_with fail
      rw [HJ.out]
      refine (check_none _ _ j (by omega) _).mono ?_
      rintro e w' ⟨rfl, hB'⟩
      go_wp2_with fail
      go_ret
      exact ⟨rfl, FIN.out _ hB'⟩
  · obtain ⟨j, rfl⟩ := Int.eq_ofNat_of_zero_le bd0
    go_enter Yba.func4, Yba.ntmps4
    go_wp2
    go_loop [6] (fun v => v = .int .i64 0) (fun v => 0)
    case atStart => rfl
    case round =>
      subst hrel
      go_wp2_with fail
      refine (check_none _ _ j (by omega) _).mono ?_
      rintro e w' ⟨rfl, hB'⟩
      go_wp2_with fail
      go_ret
      exact ⟨rfl, FIN.out _ hB'⟩

set_option maxHeartbeats 400000 in
theorem built_walk (a0 : Option Addr) (len0 cap0 : Nat) (z0 : List Int) (a1 : Int) (w : World) (w0 : IsRow .u8 w a0 len0 cap0 z0) (w1 : (Lit.int .u64 a1).wf = true) :
    Calls Yba.prog 4 #[.slice a0 len0 cap0, .int .u64 a1] w fun e w' => e = .returned (.bool true) ∧ Below w.heap.size w w' := by
  obtain ⟨bd0, bd1⟩ := bounds_u64 w1
  clear w1
  by_cases hbig : 65536 < len0
  · have hm : len0 ≤ 9223372036854775807 := by
      rcases w0 with ⟨_, h, _, _⟩ | ⟨_, _, h1, h2, _⟩
      · omega
      · unfold maxLen at h2; omega
    clear w0
    go_enter Yba.func4, Yba.ntmps4
    go_wp2_with fail
    go_ret
    exact ⟨rfl, Below.refl _ _⟩
  rcases w0.told with rfl | ⟨b, off, rfl, hb, hz, hc, hw⟩
  · exact built_none a0 cap0 a1 bd0 bd1 w
  · exact built_at b off len0 cap0 (z0.take len0) hz (by omega) hw a1 bd0 bd1 w hb hc
end Go.Proofs.Ybulkcjcs
