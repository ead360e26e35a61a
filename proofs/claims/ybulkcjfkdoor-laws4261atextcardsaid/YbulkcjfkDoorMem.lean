import Derived.WalkKit
import Derived.WalkSpells
import Derived.WalkSmall
import Derived.Deep.AppendLies
import Derived.Deep.OwnRows
namespace Go.Proofs.YbulkcjfkDoor
open Go.RowKit

/-- A row of cells that came in: nothing in it, or a plain address below B with its cells. -/
def RowAt (w : World) (B : Nat) (a : Option Addr) (n : Nat) (f : Nat → Value) : Prop :=
  n = 0 ∨ ∃ b o, a = some ⟨b, o, none⟩ ∧ b < B ∧ ∀ j, j < n → w.cell? ⟨b, o + j, none⟩ = some (f j)
theorem RowAt.below {w w' : World} {B B' : Nat} {a : Option Addr} {n : Nat} {f : Nat → Value} (h : RowAt w B a n f) (hb : Below B' w w') (hB : B ≤ B') : RowAt w' B a n f := by
  rcases h with h | ⟨b, o, rfl, hl, hc⟩
  · exact .inl h
  · exact .inr ⟨b, o, rfl, hl, fun j hj => (hb.cell (p := ⟨b, o + j, none⟩) (Nat.lt_of_lt_of_le hl hB)).trans (hc j hj)⟩

/-- From slice v in w to slice v' in w': only v's own row and new blocks have turned, and v' lies in v's row or in a new block. -/
structure Mv (w : World) (v : Value) (w' : World) (v' : Value) : Prop where
  grown : w.grownBy w' v.ownBlock
  own : v'.ownBlock = v.ownBlock ∨ ∃ g, v'.ownBlock = some g ∧ w.heap.size ≤ g
theorem grownBy_trans {w w' w'' : World} {r r' : Option Nat} (h : w.grownBy w' r) (k : w'.grownBy w'' r') (hr : r' = r ∨ ∃ g, r' = some g ∧ w.heap.size ≤ g) : w.grownBy w'' r := by
  refine ⟨k.os.trans h.os, k.tape.trans h.tape, k.output.trans h.output, Nat.le_trans h.size k.size, fun b hb hne => ?_⟩
  refine (k.block b (Nat.lt_of_lt_of_le hb h.size) fun e => ?_).trans (h.block b hb hne)
  rcases hr with rfl | ⟨g, rfl, hg⟩
  · exact hne e
  · cases e; omega
theorem Mv.refl (w : World) (v : Value) : Mv w v w v := ⟨World.grownBy.refl _ _, .inl rfl⟩
theorem Mv.trans {w w' w'' : World} {v v' v'' : Value} (h : Mv w v w' v') (k : Mv w' v' w'' v'') : Mv w v w'' v'' := by
  refine ⟨grownBy_trans h.grown k.grown h.own, ?_⟩
  rcases k.own with e | ⟨g, e, hg⟩
  · rw [e]; exact h.own
  · exact .inr ⟨g, e, Nat.le_trans h.grown.size hg⟩
theorem Mv.alloc {w w' : World} {v v' : Value} (h : Mv w v w' v') (o : Obj) : Mv w v (w'.alloc o) v' :=
  ⟨grownBy_trans h.grown (World.grownBy_alloc w' o v.ownBlock) (.inl rfl), h.own⟩
theorem Mv.drewN {w w' : World} {v v' : Value} (h : Mv w v w' v') (n : Nat) : Mv w v (w'.drewN n) v' :=
  ⟨⟨h.grown.os, h.grown.tape, h.grown.output, h.grown.size, h.grown.block⟩, h.own⟩
/-- What 'wpList_append_lies' leaves, as one step. -/
theorem Mv.lies {w0 w w' : World} {v0 v : Value} {g n cap H : Nat} (h0 : Mv w0 v0 w v) (hgrow : w.grownBy w' v.ownBlock) (hat : v.ownBlock = some g ∨ g = H) (hH : w.heap.size ≤ H) : Mv w0 v0 w' (.slice (some ⟨g, 0, none⟩) n cap) := by
  refine h0.trans ⟨hgrow, ?_⟩
  rcases hat with h | rfl
  · exact .inl h.symm
  · exact .inr ⟨g, rfl, hH⟩
/-- Below B nothing has turned if the row lies from B on. -/
theorem Mv.below {B : Nat} {w0 w w' : World} {v v' : Value} (h : Mv w v w' v') (hb : Below B w0 w) (hB : B ≤ w.heap.size) (hv : ∀ k, v.ownBlock = some k → B ≤ k) : Below B w0 w' := hb.grown h.grown hB hv
theorem own_below {B : Nat} {w : World} {e : TypeId} {size n : Nat} {v : Value} {xs : List Value} (h : w.ownsRow B e size v n xs) : ∀ k, v.ownBlock = some k → B ≤ k := fun k hk => (h.lt k hk).1
end Go.Proofs.YbulkcjfkDoor
