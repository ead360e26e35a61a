import Derived.Test.YbulkcjdgDoorZ5
import Derived.Deep.LoopGhost
import Derived.BigQuiet
import Derived.Laws.BitsAllLaws
namespace Go.Proofs.YbulkcjdgDoor
open Go.RowKit
set_option linter.unusedVariables false
set_option linter.unusedSimpArgs false

/-- Some of the first c ends lies in the arc. -/
def hits (ends : Nat → Nat) (a n c : Nat) : Prop := ∃ m, m < c ∧ up64 (ends m) a < n
theorem hits_succ (ends : Nat → Nat) (a n c : Nat) : hits ends a n (c + 1) ↔ hits ends a n c ∨ up64 (ends c) a < n := by
  constructor
  · rintro ⟨m, hm, h⟩
    rcases Nat.lt_or_ge m c with h1 | h1
    · exact .inl ⟨m, h1, h⟩
    · obtain rfl : m = c := by omega
      exact .inr h
  · rintro (⟨m, hm, h⟩ | h)
    · exact ⟨m, by omega, h⟩
    · exact ⟨c, by omega, h⟩

theorem Chg.cells {w w' : World} (h : New w w') {p : Addr} {v : Value} (hp : w.cell? p = some v) : w'.cell? p = some v := h.cell hp fun f => f

set_option maxRecDepth 100000 in
set_option maxHeartbeats 1000000 in
theorem ends_any (E a n ne : Nat) (ends : Nat → Nat) (ru rd : Int) (w : World) (h4 : w.cell? ⟨E, 4, none⟩ = some (.int .i64 ru)) (h5 : w.cell? ⟨E, 5, none⟩ = some (.int .i64 rd)) (h6 : ∀ m, m < 3 → w.cell? ⟨E, 6 + m, none⟩ = some (.int .u64 (ends m))) (h9 : w.cell? ⟨E, 9, none⟩ = some (.int .i64 ne)) (hne : ne = 1 ∨ ne = 3) (he : ∀ m, ends m < 18446744073709551616) (ha : a < 18446744073709551616) (hn : n < 18446744073709551616) :
    Calls Ybad.prog 14 #[.pointer (some ⟨E, 0, none⟩), .int .u64 a, .int .u64 n] w fun e w' => ∃ d : Nat, (∃ v : Value, e = .returned (.tuple #[.int .u64 d, v])) ∧ New w w' ∧ d < 18446744073709551616 ∧ (1 ≤ n → (d = 0 ↔ hits ends a n ne)) := by
  have HW := hidden (walkTo_any E (ends 0) a n ru rd 0 w h4 h5 (he 0) ha hn)
  have c6 : w.cell? ⟨E, 6, none⟩ = some (.int .u64 (ends 0)) := h6 0 (by omega)
  have hh1 : hits ends a n 1 ↔ up64 (ends 0) a < n := by
    rw [hits_succ]
    exact ⟨fun h => h.elim (fun ⟨m, hm, _⟩ => by omega) id, .inr⟩
  have HH := hidden hh1
  obtain ⟨e0, h0⟩ : ∃ e0, e0 = ends 0 := ⟨_, rfl⟩
  rw [← h0] at HW c6 HH
  have H6 := hidden h6
  have HE := hidden he
  clear h0 h6 he hh1
  rcases hne with rfl | rfl
  · have h9 : w.cell? ⟨E, 9, none⟩ = some (.int .i64 1) := h9
    go_enter Ybad.func14, Ybad.ntmps14
    go_wp2_with (go_at_call 13; refine HW.out.mono ?_; rintro e w9 ⟨d, ⟨v, rfl⟩, hw9, hd1, hd2⟩; have hw8 := hw9.symm; subst hw8; have H2 := hidden hd2; clear hd2)
    go_quiet (fail)
    go_wp2_with fail
    go_loopg [6, 7, 33] 0 (fun g dv vv iv wr => iv = .int .i64 0 ∧ wr = w.drewN nq ∧ dv = .int .u64 d)
    case atStart => exact ⟨rfl, rfl, rfl⟩
    case round =>
      obtain ⟨rfl, rfl, rfl⟩ := hrel
      go_wp2_with fail
      go_ret2
      exact ⟨d, ⟨_, rfl⟩, (Chg.refl _ w).drewN _, hd1, fun h => (H2.out h).trans HH.out.symm⟩
  · have h9 : w.cell? ⟨E, 9, none⟩ = some (.int .i64 3) := h9
    go_enter Ybad.func14, Ybad.ntmps14
    go_wp2_with (go_at_call 13; refine HW.out.mono ?_; rintro e w9 ⟨d, ⟨v, rfl⟩, hw9, hd1, hd2⟩; have hw8 := hw9.symm; subst hw8; have H2 := hidden hd2; clear hd2)
    go_quiet (fail)
    go_wp2_with fail
    go_loopg [6, 7, 33] 2 (fun g dv vv iv wr => ∃ i d : Nat, g + i = 2 ∧ iv = .int .i64 i ∧ dv = .int .u64 d ∧ d < 18446744073709551616 ∧ New w wr ∧ Hid (1 ≤ n → (d = 0 ↔ hits ends a n (i + 1))))
    case atStart => exact ⟨0, d, rfl, rfl, rfl, hd1, (Chg.refl _ w).drewN _, hidden fun h => (H2.out h).trans HH.out.symm⟩
    case round =>
      obtain ⟨i, d', hgi, rfl, rfl, hd', hN, HR⟩ := hrel
      clear hd1 H2 HW
      by_cases hi : i < 2
      · have hci : wr.cell? ⟨E, 7 + i, none⟩ = some (.int .u64 (ends (i + 1))) := by
          have := H6.out (i + 1) (by omega)
          rw [show 6 + (i + 1) = 7 + i by omega] at this
          exact hN.cells this
        have HW := hidden (walkTo_any E (ends (i + 1)) a n ru rd 0 wr (hN.cells h4) (hN.cells h5) (HE.out _) ha hn)
        have HS := hidden (hits_succ ends a n (i + 1))
        obtain ⟨t, ht⟩ : ∃ t, t = ends (i + 1) := ⟨_, rfl⟩
        rw [← ht] at hci HW HS
        clear ht
        have HN := hidden hN
        clear hN h4 h5 h9 c6 HH
        have tk : True := trivial
        go_wp2_with (go_at_call 13; refine HW.out.mono ?_; rintro e w9 ⟨dt, ⟨v9, rfl⟩, hw9, hdt1, hdt2⟩; have hw8 := hw9.symm; subst hw8; have H2 := hidden hdt2; clear hdt2)
        · rename_i hlt
          go_roundg (1 - i)
          case measure => omega
          case rel =>
            refine ⟨i + 1, dt, by omega, by go_num, rfl, hdt1, HN.out, hidden fun h => ?_⟩
            have k1 := HR.out h
            have k2 := H2.out h
            rw [HS.out]
            constructor
            · intro h0; exact .inr (k2.1 h0)
            · rintro (h0 | h0)
              · have := k1.2 h0; omega
              · exact k2.2 h0
        · rename_i hlt
          go_roundg (1 - i)
          case measure => omega
          case rel =>
            refine ⟨i + 1, d', by omega, by go_num, rfl, hd', HN.out, hidden fun h => ?_⟩
            have k1 := HR.out h
            have k2 := H2.out h
            rw [HS.out]
            constructor
            · intro h0; exact .inl (k1.1 h0)
            · rintro (h0 | h0)
              · exact k1.2 h0
              · have := k2.2 h0; omega
      · obtain rfl : i = 2 := by omega
        go_wp2_with fail
        go_ret2
        exact ⟨d', ⟨_, rfl⟩, hN, hd', HR.out⟩
end Go.Proofs.YbulkcjdgDoor
