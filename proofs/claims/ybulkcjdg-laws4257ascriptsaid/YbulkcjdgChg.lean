import Derived.Test.YbulkcjdgRouteAny
namespace Go.Proofs.Ybulkcjdg
open Go.RowKit

/-- Of w's blocks only those of S have turned. -/
structure Chg (S : Nat → Prop) (w w' : World) : Prop where
  os : w'.os = w.os
  tape : w'.tape = w.tape
  output : w'.output = w.output
  size : w.heap.size ≤ w'.heap.size
  block : ∀ k, k < w.heap.size → ¬ S k → w'.heap[k]? = w.heap[k]?
theorem Chg.refl (S : Nat → Prop) (w : World) : Chg S w w := ⟨rfl, rfl, rfl, Nat.le_refl _, fun _ _ _ => rfl⟩
theorem Chg.trans {S T : Nat → Prop} {w w' w'' : World} (h : Chg S w w') (k : Chg T w' w'') (hT : ∀ b, b < w.heap.size → T b → S b) : Chg S w w'' :=
  ⟨k.os.trans h.os, k.tape.trans h.tape, k.output.trans h.output, Nat.le_trans h.size k.size, fun b hb hn => (k.block b (Nat.lt_of_lt_of_le hb h.size) fun t => hn (hT b hb t)).trans (h.block b hb hn)⟩
theorem Chg.mono {S T : Nat → Prop} {w w' : World} (h : Chg S w w') (hT : ∀ b, b < w.heap.size → S b → T b) : Chg T w w' :=
  ⟨h.os, h.tape, h.output, h.size, fun b hb hn => h.block b hb fun s => hn (hT b hb s)⟩
theorem Chg.ofGrown {w w' : World} {row : Option Nat} (h : w.grownBy w' row) : Chg (fun k => row = some k) w w' :=
  ⟨h.os, h.tape, h.output, h.size, fun k hk hn => h.block k hk fun e => hn e.symm⟩
theorem Chg.alloc {S : Nat → Prop} {w w' : World} (h : Chg S w w') (o : Obj) : Chg S w (w'.alloc o) :=
  h.trans (Chg.ofGrown (World.grownBy_alloc w' o none)) (by intro b _ hb; cases hb)
theorem Chg.setCell {S : Nat → Prop} {w w' : World} (h : Chg S w w') {p : Addr} (hp : S p.block ∨ w.heap.size ≤ p.block) (v : Value) : Chg S w (w'.setCell p v) := by
  refine ⟨h.os, h.tape, h.output, by rw [Go.Deep.nblk_setCell]; exact h.size, fun k hk hn => ?_⟩
  rw [Go.Deep.blk_setCell_other _ _ _ _ (by rintro rfl; rcases hp with hp | hp; exact hn hp; omega)]
  exact h.block k hk hn
theorem Chg.drew {S : Nat → Prop} {w w' : World} (h : Chg S w w') : Chg S w w'.drew := ⟨h.os, h.tape, h.output, h.size, h.block⟩
theorem Chg.drewN {S : Nat → Prop} {w w' : World} (h : Chg S w w') (n : Nat) : Chg S w (w'.drewN n) := ⟨h.os, h.tape, h.output, h.size, h.block⟩
theorem Chg.grown {S : Nat → Prop} {w w' w'' : World} {row : Option Nat} (h : Chg S w w') (hg : w'.grownBy w'' row) (hr : ∀ k, row = some k → S k ∨ w.heap.size ≤ k) : Chg S w w'' :=
  h.trans (Chg.ofGrown hg) fun b hb hrow => by rcases hr b hrow with h | h; exact h; omega
theorem Chg.below {S : Nat → Prop} {w w' : World} {B : Nat} (h : Chg S w w') (hB : ∀ k, S k → B ≤ k) (hs : B ≤ w.heap.size) : Below B w w' :=
  ⟨h.os, h.tape, h.output, h.size, fun k hk => h.block k (Nat.lt_of_lt_of_le hk hs) fun s => by have := hB k s; omega⟩
theorem Chg.cell {S : Nat → Prop} {w w' : World} (h : Chg S w w') {p : Addr} {v : Value} (hp : w.cell? p = some v) (hn : ¬ S p.block) : w'.cell? p = some v :=
  (World.cell?_of_block (h.block p.block (World.block_lt_of_cell? w p hp) hn)).trans hp
theorem Chg.own {S : Nat → Prop} {w w' : World} {B : Nat} {v : Value} {l : List Int} (h : Chg S w w') (ho : OwnI B w v l) (hn : ∀ k, v.ownBlock = some k → ¬ S k) : OwnI B w' v l :=
  ho.keep fun k hk => h.block k (ho.lt k hk) (hn k hk)
theorem Chg.owns {S : Nat → Prop} {w w' : World} {B : Nat} {e : TypeId} {size n : Nat} {v : Value} {xs : List Value} (h : Chg S w w') (ho : w.ownsRow B e size v n xs) (hn : ∀ k, v.ownBlock = some k → ¬ S k) : w'.ownsRow B e size v n xs := by
  refine ⟨ho.1, ?_⟩
  have hlt := ho.lt
  rcases ho.2 with h2 | ⟨g, cap, cur, rfl, hb, hg, r⟩
  · exact .inl h2
  · exact .inr ⟨g, cap, cur, rfl, hb, (h.block g (hlt g rfl).2 (hn g rfl)).trans hg, r⟩
end Go.Proofs.Ybulkcjdg
