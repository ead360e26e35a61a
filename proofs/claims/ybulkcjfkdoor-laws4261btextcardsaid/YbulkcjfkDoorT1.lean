import Derived.Shelf.Bytes.WriteStringAt
import Derived.Shelf.Bytes.WriteByteAt
import Derived.Shelf.Bytes.StringAt
import Derived.Shelf.Lay
import Derived.Lib.BufferAt
import Derived.Lib.Hide
import Derived.Lib.Strings
import Derived.Ground.NamesProg
import Derived.Test.YbulkcjfkDoorProg
import Derived.WalkKit
import Derived.BigCall
namespace Go.Proofs
open Go.Shelf Go.RowKit

shelf_lay LaysM.n178 Nm 178 at Ybad as Ybad.laysAt178
shelf_lay LaysM.n179 Nm 179 at Ybad as Ybad.laysAt179
shelf_lay LaysM.n182 Nm 182 at Ybad as Ybad.laysAt182
theorem Ybad.writeString (T : TypeId) (R : Nat → Option Value) (B b q : Nat) (bs : List Value) (s : ByteArray) (w : World) (h : LibA.IsBuffer T R 5 B b q bs w) (hBw : B ≤ w.heap.size) (h1 : ∀ v ∈ bs, v.oneCell' = true) (hlim : bs.length + s.size ≤ 140737488355328) :
    Calls Ybad.prog 5 #[.pointer (some ⟨b, q, none⟩), .string s] w fun e w' => e = .returned (.tuple #[.int .i64 s.size, .nilIface]) ∧ LibA.IsBuffer T R 5 B b q (bs ++ Lib.byteCells s.data.toList) w' ∧ RowKit.Below B w w' ∧ Lib.OthersKept 5 (some b) w w' := Any.Buffer_WriteString_at Ybad.laysAt178 T R B b q bs s w h hBw h1 hlim
theorem Ybad.writeByte (T : TypeId) (R : Nat → Option Value) (B b q : Nat) (bs : List Value) (c : Int) (w : World) (h : LibA.IsBuffer T R 5 B b q bs w) (hBw : B ≤ w.heap.size) (h1 : ∀ v ∈ bs, v.oneCell' = true) (hlim : bs.length + 1 ≤ 140737488355328) :
    Calls Ybad.prog 21 #[.pointer (some ⟨b, q, none⟩), .int .u8 c] w fun e w' => e = .returned .nilIface ∧ LibA.IsBuffer T R 5 B b q (bs ++ [.int .u8 c]) w' ∧ RowKit.Below B w w' ∧ Lib.OthersKept 5 (some b) w w' := Any.Buffer_WriteByte_at Ybad.laysAt179 T R B b q bs c w h hBw h1 hlim
theorem Ybad.bufString (T : TypeId) (R : Nat → Option Value) (B b q : Nat) (l : List UInt8) (w : World) (h : LibA.IsBuffer T R 5 B b q (Lib.byteCells l) w) :
    Calls Ybad.prog 8 #[.pointer (some ⟨b, q, none⟩)] w fun e w' => e = .returned (.string ⟨l.toArray⟩) ∧ ∃ n, w' = w.drewN n := Any.Buffer_String_at Ybad.laysAt182 T R B b q l w h
end Go.Proofs
