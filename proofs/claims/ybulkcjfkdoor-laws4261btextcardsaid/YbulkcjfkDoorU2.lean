import Derived.Test.YbulkcjfkDoorU1
namespace Go.Proofs.YbulkcjfkDoor
open Go.RowKit Go.Deep
set_option linter.unusedVariables false
set_option linter.unusedSimpArgs false

theorem nilable_any (k : Nat) (z : ByteArray) (zn : Bool) (w : World) (hz : w.cell? ⟨k, 1, none⟩ = some (.string z)) (hn : (z.toList == [110, 105, 108]) = zn) :
    Calls Ybad.prog 17 #[.pointer (some ⟨k, 0, none⟩)] w fun e w' => e = .returned (.bool zn) ∧ w' = w := by
  go_enter Ybad.func17, Ybad.ntmps17
  go_wp2_with fail
  go_ret
  exact ⟨rfl, rfl⟩
theorem pointer_any (f k : Nat) (z : ByteArray) (zn pr : Bool) (w : World) (h1 : w.cell? ⟨f, 1, none⟩ = some (.pointer (some ⟨k, 0, none⟩))) (h4 : w.cell? ⟨f, 4, none⟩ = some (.bool pr)) (hz : w.cell? ⟨k, 1, none⟩ = some (.string z)) (hn : (z.toList == [110, 105, 108]) = zn) :
    Calls Ybad.prog 24 #[.pointer (some ⟨f, 0, none⟩)] w fun e w' => e = .returned (.bool (pr && !zn)) ∧ w' = w := by
  have N := hidden (nilable_any k z zn w hz hn)
  clear hz hn
  cases pr
  · go_enter Ybad.func24, Ybad.ntmps24
    go_wp2_with fail
    go_ret
    exact ⟨rfl, rfl⟩
  · go_enter Ybad.func24, Ybad.ntmps24
    go_wp2_with (go_at_call 17; refine N.out.mono ?_; rintro e w9 ⟨rfl, hw9⟩; have hw8 := hw9.symm; subst hw8)
    go_ret
    exact ⟨by cases zn <;> rfl, rfl⟩
/-- (*field).value at "m". -/
theorem value_any (f k : Nat) (z nm : ByteArray) (zn pr : Bool) (on : Option Addr) (w : World) (hn9 : nm.size ≤ 4096) (h1 : w.cell? ⟨f, 1, none⟩ = some (.pointer (some ⟨k, 0, none⟩))) (h2 : w.cell? ⟨f, 2, none⟩ = some (.string nm)) (h4 : w.cell? ⟨f, 4, none⟩ = some (.bool pr)) (h5 : w.cell? ⟨f, 5, none⟩ = some (.pointer on)) (hz : w.cell? ⟨k, 1, none⟩ = some (.string z)) (hn : (z.toList == [110, 105, 108]) = zn) :
    Calls Ybad.prog 16 #[.pointer (some ⟨f, 0, none⟩), .string { data := #[109] }] w fun e w' => ∃ r : ByteArray, e = .returned (.string r) ∧ w' = w ∧ r.data.toList = (if on.isSome then [120, 46] else if pr && !zn then [42, 109, 46] else [109, 46]) ++ nm.data.toList := by
  have N := hidden (pointer_any f k z zn pr w h1 h4 hz hn)
  clear h1 h4 hz hn
  cases on with
  | some o =>
    go_enter Ybad.func16, Ybad.ntmps16
    go_wp2_with fail
    go_ret
    exact ⟨_, rfl, rfl, by simp [ByteArray.data_append]⟩
  | none =>
    cases hp : (pr && !zn)
    · rw [hp] at N
      go_enter Ybad.func16, Ybad.ntmps16
      go_wp2_with (go_at_call 24; refine N.out.mono ?_; rintro e w9 ⟨rfl, hw9⟩; have hw8 := hw9.symm; subst hw8)
      go_ret
      exact ⟨_, rfl, rfl, by simp [ByteArray.data_append]⟩
    · rw [hp] at N
      go_enter Ybad.func16, Ybad.ntmps16
      go_wp2_with (go_at_call 24; refine N.out.mono ?_; rintro e w9 ⟨rfl, hw9⟩; have hw8 := hw9.symm; subst hw8)
      go_ret
      exact ⟨_, rfl, rfl, by simp [ByteArray.data_append]⟩
theorem unwrap_any (f : Nat) (s wr : ByteArray) (w : World) (hs9 : s.size ≤ 10000) (hw9 : wr.size ≤ 4096) (h6 : w.cell? ⟨f, 6, none⟩ = some (.string wr)) :
    Calls Ybad.prog 15 #[.pointer (some ⟨f, 0, none⟩), .string s] w fun e w' => ∃ r : ByteArray, e = .returned (.string r) ∧ w' = w ∧ r.data.toList = [120, 44, 32, 111, 107, 32, 58, 61, 32] ++ s.data.toList ++ [46, 40, 42] ++ wr.data.toList ++ [41, 59, 32, 111, 107, 32, 38, 38, 32, 120, 32, 33, 61, 32, 110, 105, 108] := by
  go_enter Ybad.func15, Ybad.ntmps15
  go_wp2_with fail
  go_ret
  exact ⟨_, rfl, rfl, by simp [ByteArray.data_append]⟩
end Go.Proofs.YbulkcjfkDoor
