import Derived.Test.YbulkcjfkDoorT3
namespace Go.Proofs.YbulkcjfkDoor
open Go.RowKit Go.Deep
set_option linter.unusedVariables false
set_option linter.unusedSimpArgs false

set_option maxRecDepth 100000 in
set_option maxHeartbeats 2000000 in
/-- (*printer).line with no part. -/
theorem line0 (R : Nat → Option Value) (B b : Nat) (l : List UInt8) (w : World) (h : LibA.IsBuffer 43 R 5 B b 0 (Lib.byteCells l) w) (hBw : B ≤ w.heap.size) (hlim : l.length + 1 ≤ 140737488355328) :
    Calls Ybad.prog 13 #[.pointer (some ⟨b, 0, none⟩), .slice none 0 0] w fun e w' => e = .returned (.tuple #[]) ∧ LibA.IsBuffer 43 R 5 B b 0 (Lib.byteCells (l ++ [10])) w' ∧ Below B w w' ∧ Lib.OthersKept 5 (some b) w w' := by
  have WB := hidden (Ybad.writeByte 43 R B b 0 _ 10 w h hBw (Lib.byteCells_one _) (by rw [Lib.byteCells_length]; omega))
  clear h
  go_enter Ybad.func13, Ybad.ntmps13
  go_wp2_with fail
  go_loopg [8] 0 (fun g iv wr => iv = .int .i64 0 ∧ wr = w)
  case atStart => exact ⟨rfl, rfl⟩
  case round =>
    obtain ⟨rfl, hwr⟩ := hrel
    have hw9 := hwr.symm
    subst hw9
    go_wp2_with (go_at_call 21; refine WB.out.mono ?_; rintro e w5 ⟨rfl, hI5, hB5, hK5⟩)
    go_end0
    refine ⟨rfl, ?_, hB5, hK5⟩
    rw [Lib.byteCells_append]
    exact hI5
end Go.Proofs.YbulkcjfkDoor
