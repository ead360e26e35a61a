import Derived.Test.YbulkcjdgSmall
namespace Go.Proofs.Ybulkcjdg
open Go.RowKit
set_option linter.unusedVariables false

/-- badSource where Byzantine is nil. -/
theorem bad_plain (G bb : Nat) (s : Nat) (hs : s < 8) (b : Bool) (w : World) (hz : w.cell? ⟨G, 3, none⟩ = some (.slice none 0 0)) (hb : w.cell? ⟨G, 1, none⟩ = some (.slice (some ⟨bb, 0, none⟩) 8 8)) (hc : w.cell? ⟨bb, s, none⟩ = some (.bool b)) :
    Calls Yba.prog 25 #[.pointer (some ⟨G, 0, none⟩), .int .i64 s] w fun e w' => e = .returned (.bool b) ∧ w' = w := by
  have q54 : ∀ (w : World) (a : Option Addr) (n c n' c' : Nat), (binOp .neq 54 (.slice a n c) (.slice none n' c')).run Yba.prog w = .ok (.bool (!a.isNone)) w := fun w a n c n' c' => run_neq_slice_nil_any w _ _ a n c n' c' Yba.underlying54
  go_enter Yba.func25, Yba.ntmps25
  go_wp2
  go_ret
  exact ⟨rfl, rfl⟩
/-- badSource where Byzantine is set. -/
theorem bad_byz (G zz : Nat) (s : Nat) (hs : s < 8) (b : Bool) (w : World) (hz : w.cell? ⟨G, 3, none⟩ = some (.slice (some ⟨zz, 0, none⟩) 8 8)) (hc : w.cell? ⟨zz, s, none⟩ = some (.bool b)) :
    Calls Yba.prog 25 #[.pointer (some ⟨G, 0, none⟩), .int .i64 s] w fun e w' => e = .returned (.bool b) ∧ w' = w := by
  have q54 : ∀ (w : World) (a : Option Addr) (n c n' c' : Nat), (binOp .neq 54 (.slice a n c) (.slice none n' c')).run Yba.prog w = .ok (.bool (!a.isNone)) w := fun w a n c n' c' => run_neq_slice_nil_any w _ _ a n c n' c' Yba.underlying54
  go_enter Yba.func25, Yba.ntmps25
  go_wp2
  go_ret
  exact ⟨rfl, rfl⟩

theorem clone_nil (w : World) : Calls Yba.prog 16 #[.slice none 0 0] w fun e w' => e = .returned (.slice none 0 0) ∧ w' = w := by
  have q25 : ∀ (w : World) (a : Option Addr) (n c n' c' : Nat), (binOp .eql 25 (.slice a n c) (.slice none n' c')).run Yba.prog w = .ok (.bool a.isNone) w := fun w a n c n' c' => Lib.run_eql_slice_nil w _ _ a n c n' c' Yba.underlying25
  go_enter Yba.func16, Yba.ntmps16
  go_wp2
  go_ret
  exact ⟨rfl, rfl⟩

set_option maxHeartbeats 400000 in
theorem clone_some (g cap n : Nat) (l : List Int) (hl : l.length = n) (hn : n ≤ 1000000) (w : World) (hc : ∀ j, j < n → w.cell? ⟨g, j, none⟩ = some (.int .i64 (l.getD j 0))) :
    Calls Yba.prog 16 #[.slice (some ⟨g, 0, none⟩) n cap] w fun e w' => ∃ v, e = .returned v ∧ OwnI w.heap.size w' v l ∧ Below w.heap.size w w' := by
  have q25 : ∀ (w : World) (a : Option Addr) (n c n' c' : Nat), (binOp .eql 25 (.slice a n c) (.slice none n' c')).run Yba.prog w = .ok (.bool a.isNone) w := fun w a n c n' c' => Lib.run_eql_slice_nil w _ _ a n c n' c' Yba.underlying25
  obtain ⟨i0, hi, hz0, hz1, hz2⟩ := info_parts Yba.info3
  have HL : Hid (l.length = n) := hl
  have HC : Hid (∀ j, j < n → w.cell? ⟨g, j, none⟩ = some (.int .i64 (l.getD j 0))) := hc
  clear hl hc
  go_enter Yba.func16, Yba.ntmps16
  go_wp2_with (at_builtin; refine wpList_append_own _ rfl (.tmp 5) (.tmp 6) 25 rfl w.heap.size 3 i0 (.int .i64 0) 1 8 Yba.underlying25 hi hz0 hz1 hz2 rfl (by decide) _ 0 [] rfl (World.ownsRow_made w #[] 0 (Nat.le_refl _) (by decide) rfl) ⟨g, 0, none⟩ n cap (l.map (Value.int .i64)) rfl ?c1 ?c2 (ints_oneCell _ _) ?c3 ?c4 ?c5 ?c6)
  case c1 => rw [List.length_map, HL.out]; omega
  case c2 =>
    refine fun j u hj => ?_
    obtain ⟨hjl, hv⟩ := List.getElem?_eq_some_iff.1 hj
    simp at hjl hv
    subst hv
    have h := HC.out j (by rw [← HL.out]; exact hjl)
    have hlt : g < w.heap.size := World.block_lt_of_cell? w ⟨g, j, none⟩ h
    have e : (⟨g, 0, none⟩ : Addr).add j = ⟨g, j, none⟩ := by by_cases h0 : j = 0 <;> simp [Addr.add, h0]
    rw [e, ((Below.refl w.heap.size w).alloc (Nat.le_refl _) _).cell (p := ⟨g, j, none⟩) hlt, h]
    simp [hjl]
  case c3 => unfold maxLen; omega
  case c4 => omega
  case c5 => simp
  case c6 =>
    intro v' w' hown hgrow _
    have hB : Below w.heap.size w w' := ((Below.refl w.heap.size w).alloc (Nat.le_refl _) _).grown hgrow (by simp) (by intro k hk; simp [Value.ownBlock] at hk; omega)
    have hO : OwnI w.heap.size w' v' l := by
      show World.ownsRow _ _ _ _ _ _ _
      rw [HL.out]
      simpa using hown
    clear hown hgrow
    go_wp2
    go_ret
    exact ⟨_, rfl, hO, hB⟩
end Go.Proofs.Ybulkcjdg
