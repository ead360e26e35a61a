import Derived.Test.YbulkcjfkDoorU5
import Derived.Deep.CutBlock
namespace Go.Proofs.YbulkcjfkDoor
open Go.RowKit Go.Deep
set_option linter.unusedVariables false
set_option linter.unusedSimpArgs false

/-- What holds of the printer and of the blocks between two lines. -/
structure Pt (w : World) (B b f k m q : Nat) (on : Option Nat) (lbl : Int) (pr : Bool) (mN fN g z d oN wr : ByteArray) (l : List UInt8) (w' : World) : Prop where
  buf : LibA.IsBuffer 43 (fun _ => none) 5 B b 0 (Lib.byteCells l) w'
  bel : Below B w w'
  gt : Gt w' b f k m q on lbl pr mN fN g z d oN wr
  kept : Lib.OthersKept 5 (some b) w w'
/-- A line of any parts. -/
theorem Pt.line {w : World} {B b f k m q : Nat} {on : Option Nat} {lbl : Int} {pr : Bool} {mN fN g z d oN wr : ByteArray} {l : List UInt8} {w' : World} (h : Pt w B b f k m q on lbl pr mN fN g z d oN wr l w') (hB : B ≤ w.heap.size) (ss : List ByteArray) (n : Nat) (hn : ss.length = n) (hn9 : n ≤ 1024) (hlim : l.length + (bytesOf ss).length + 1 ≤ 140737488355328) :
    Calls Ybad.prog 13 #[.pointer (some ⟨b, 0, none⟩), .slice (some ⟨w'.heap.size, 0, none⟩) n n] (w'.alloc (.cells (ss.map Value.string).toArray 9)) fun e w'' => e = .returned (.tuple #[]) ∧ Pt w B b f k m q on lbl pr mN fN g z d oN wr (l ++ bytesOf ss ++ [10]) w'' := by
  have hB' : B ≤ w'.heap.size := Nat.le_trans hB h.bel.size
  refine (line_any (fun _ => none) B b w'.heap.size n l ss _ (h.buf.alloc _) (by rw [nblk_alloc]; omega) hn (blk_alloc_new _ _) hlim hn9).mono ?_
  rintro e w2 ⟨rfl, h1, h2, h3⟩
  refine ⟨rfl, h1, (h.bel.alloc hB' _).trans h2, ?_, (h.kept.alloc _).trans h3⟩
  exact (h.gt.kept ((Lib.OthersKept.refl 5 (some b) w').alloc _)).kept h3
end Go.Proofs.YbulkcjfkDoor
