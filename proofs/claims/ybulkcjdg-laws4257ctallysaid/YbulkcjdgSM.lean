import Derived.Test.YbulkcjdgSend
namespace Go.Proofs.Ybulkcjdg
open Go.RowKit
set_option linter.unusedVariables false

def dsts (lo : Int) (q : Nat) : List Int := (List.range q).map fun j : Nat => lo + (j : Int)
def pths (S : List (List Int)) (A : List Bool) (src lo : Int) (q : Nat) : List (List Int) := (List.range q).map fun j : Nat => rt S A src j (lo + (j : Int))
theorem dsts_succ (lo : Int) (q : Nat) : dsts lo (q + 1) = dsts lo q ++ [lo + q] := by simp [dsts, List.range_succ]
theorem pths_succ (S : List (List Int)) (A : List Bool) (src lo : Int) (q : Nat) : pths S A src lo (q + 1) = pths S A src lo q ++ [rt S A src q (lo + q)] := by simp [pths, List.range_succ]

/-- The state of a search in the world wr: it began in w, with the path vin; the path is v now and holds l; q sends are behind it; its tally reads a, b, c, d. -/
structure SM (w : World) (B0 R G : Nat) (rs ms vin : Value) (src : Int) (D : List Int) (Ps : List (List Int)) (q : Nat) (v : Value) (l : List Int) (a b c d : Int) (wr : World) : Prop where
  rN : R < w.heap.size
  inN : ∀ k, vin.ownBlock = some k → k < w.heap.size ∧ k ≠ R
  size : w.heap.size + 3 ≤ wr.heap.size
  chg : Chg (fun k => k = R ∨ vin.ownBlock = some k) w wr
  own : OwnI B0 wr v l
  at_ : v.ownBlock = vin.ownBlock ∨ ∃ g, v.ownBlock = some g ∧ w.heap.size + 3 ≤ g
  rule : ∃ vD vP pv, Rule (w.heap.size + 3) wr R G rs ms q vD vP D Ps pv v.ownBlock
  tal : wr.heap[w.heap.size + 2]? = some (.cells #[.int .i64 a, .int .i64 b, .int .i64 c, .int .i64 d] 71 (0, 0))
  box : wr.heap[w.heap.size]? = some (.cells #[.int .i64 src, .iface 66 (.pointer (some ⟨R, 0, none⟩))] 77 (0, 0))
  res : wr.heap[w.heap.size + 1]? = some (.cells #[.int .i64 0, .int .i64 0, .int .i64 0, .int .i64 0] 71 (0, 0))

section
variable {w wr : World} {B0 R G : Nat} {rs ms vin : Value} {src : Int} {D : List Int} {Ps : List (List Int)} {q : Nat} {v : Value} {l : List Int} {a b c d : Int}

/-- The rule in a world in which only other blocks have turned. -/
theorem Rule.keep {B : Nat} {w w' : World} {vD vP : Value} {pv : List Value} {X X' : Option Nat} {T : Nat → Prop} (h : Rule B w R G rs ms q vD vP D Ps pv X) (hc : Chg T w w') (hR : ¬ T R) (hB : ∀ k, B ≤ k → T k → X = some k)
    (hP : ∀ k, vP.ownBlock = some k → X ≠ some k) (hX : X' = X ∨ ∃ g, X' = some g ∧ w.heap.size ≤ g) : Rule B w' R G rs ms q vD vP D Ps pv X' := by
  have hRlt : R < w.heap.size := Nat.lt_of_lt_of_le h.rB h.bs
  have nD : ∀ k, vD.ownBlock = some k → ¬ T k := fun k hk ht => by
    have e := hB k (h.dst.below k hk) ht
    exact h.px (by rw [e]; simp) (by rw [e, hk])
  refine ⟨h.rB, Nat.le_trans h.bs hc.size, (hc.block R hRlt hR).trans h.blk, h.dl, h.pl, hc.own h.dst nD, hc.owns h.pth (fun k hk ht => hP k hk (hB k (own_below h.pth k hk) ht)), ?_, ?_, ?_⟩
  · intro j hj
    obtain ⟨g, cap, e, o, n1, x1⟩ := h.each j hj
    refine ⟨g, cap, e, hc.own o (fun k hk ht => ?_), n1, ?_⟩
    · obtain rfl := ob hk
      exact x1 (hB _ (o.below _ rfl) ht)
    · rcases hX with e' | ⟨g', e', hg'⟩
      · rw [e']; exact x1
      · rw [e']; intro h9; have := o.lt g rfl; cases h9; omega
  · intro hne
    rcases hX with e' | ⟨g', e', hg'⟩
    · rw [e'] at hne ⊢; exact h.px hne
    · rw [e']; intro h9; have := h.dst.lt g' h9.symm; omega
  · rcases hX with e' | ⟨g', e', hg'⟩
    · rw [e']; exact h.xR
    · rw [e']; intro h9; cases h9; omega

/-- Only new blocks. -/
theorem SM.more {wr' : World} (h : SM w B0 R G rs ms vin src D Ps q v l a b c d wr) (hc : Chg (fun _ => False) wr wr') : SM w B0 R G rs ms vin src D Ps q v l a b c d wr' := by
  obtain ⟨vD, vP, pv, hr⟩ := h.rule
  have hs := h.size
  refine ⟨h.rN, h.inN, Nat.le_trans h.size hc.size, h.chg.trans hc (by simp), hc.own h.own (fun _ _ h => h), h.at_, ⟨vD, vP, pv, hr.keep hc (fun h => h) (fun _ _ h => h.elim) ?_ (.inl rfl)⟩, (hc.block _ (by omega) id).trans h.tal, (hc.block _ (by omega) id).trans h.box, (hc.block _ (by omega) id).trans h.res⟩
  intro k hk hX
  exact own_types h.own hr.pth (by decide) k hX hk

/-- The path moves. -/
theorem SM.moved {wr' : World} {v' : Value} {l' : List Int} (h : SM w B0 R G rs ms vin src D Ps q v l a b c d wr) (hM : Mv wr v wr' v') (ho : OwnI B0 wr' v' l') : SM w B0 R G rs ms vin src D Ps q v' l' a b c d wr' := by
  obtain ⟨vD, vP, pv, hr⟩ := h.rule
  have hs := h.size
  have hc := Chg.ofGrown hM.grown
  have hN : ∀ k, w.heap.size ≤ k → k < w.heap.size + 3 → v.ownBlock ≠ some k := fun k h1 h2 e => by
    rcases h.at_ with h9 | ⟨g, h9, hg⟩
    · have := (h.inN k (h9 ▸ e)).1; omega
    · rw [h9] at e; cases e; omega
  refine ⟨h.rN, h.inN, Nat.le_trans h.size hc.size, h.chg.trans hc ?_, ho, ?_, ⟨vD, vP, pv, hr.keep hc (fun e => hr.xR e) (fun k _ e => e) (fun k hk hX => own_types h.own hr.pth (by decide) k hX hk) hM.own⟩,
    (hc.block _ (by omega) (hN _ (by omega) (by omega))).trans h.tal, (hc.block _ (by omega) (hN _ (by omega) (by omega))).trans h.box, (hc.block _ (by omega) (hN _ (by omega) (by omega))).trans h.res⟩
  · intro k hk e
    rcases h.at_ with h9 | ⟨g, h9, hg⟩
    · exact .inr (h9 ▸ e)
    · rw [h9] at e; cases e; omega
  · rcases hM.own with e | ⟨g, e, hg⟩
    · rw [e]; exact h.at_
    · exact .inr ⟨g, e, by omega⟩

/-- A store into the tally. -/
theorem SM.tally {a' b' c' d' : Int} (h : SM w B0 R G rs ms vin src D Ps q v l a b c d wr) (i : Nat) (x : Int) (hx : #[Value.int .i64 a, .int .i64 b, .int .i64 c, .int .i64 d].setIfInBounds i (.int .i64 x) = #[.int .i64 a', .int .i64 b', .int .i64 c', .int .i64 d']) :
    SM w B0 R G rs ms vin src D Ps q v l a' b' c' d' (wr.setCell ⟨w.heap.size + 2, i, none⟩ (.int .i64 x)) := by
  obtain ⟨vD, vP, pv, hr⟩ := h.rule
  have hs := h.size
  have hRN := h.rN
  have hc : Chg (fun k => k = w.heap.size + 2) wr (wr.setCell ⟨w.heap.size + 2, i, none⟩ (.int .i64 x)) := (Chg.refl (fun k => k = w.heap.size + 2) wr).setCell (p := ⟨w.heap.size + 2, i, none⟩) (.inl rfl) _
  have hN : v.ownBlock ≠ some (w.heap.size + 2) := fun e => by
    rcases h.at_ with h9 | ⟨g, h9, hg⟩
    · have := (h.inN _ (h9 ▸ e)).1; omega
    · rw [h9] at e; cases e; omega
  refine ⟨h.rN, h.inN, Nat.le_trans h.size hc.size, h.chg.trans hc (fun k hk e => by omega), hc.own h.own (fun k hk e => hN (e ▸ hk)), h.at_, ⟨vD, vP, pv, hr.keep hc (by omega) (fun k hk e => by omega) (fun k hk hX => own_types h.own hr.pth (by decide) k hX hk) (.inl rfl)⟩, ?_, (hc.block _ (by omega) (by omega)).trans h.box, (hc.block _ (by omega) (by omega)).trans h.res⟩
  rw [heap_setCell_same wr _ i _ _ _ h.tal, hx]

/-- A send. -/
theorem SM.sent {wr' : World} {vD vP vE vF : Value} {pv pv' : List Value} {D' : List Int} {Ps' : List (List Int)} (h : SM w B0 R G rs ms vin src D Ps q v l a b c d wr) (hr : Rule (w.heap.size + 3) wr R G rs ms q vD vP D Ps pv v.ownBlock) (hc : Chg (fun k => k = R ∨ vD.ownBlock = some k ∨ vP.ownBlock = some k) wr wr')
    (hr' : Rule (w.heap.size + 3) wr' R G rs ms (q + 1) vE vF D' Ps' pv' v.ownBlock) : SM w B0 R G rs ms vin src D' Ps' (q + 1) v l a b c d wr' := by
  have hs := h.size
  have hRN := h.rN
  have hN : ∀ k, w.heap.size ≤ k → k < w.heap.size + 3 → ¬ (k = R ∨ vD.ownBlock = some k ∨ vP.ownBlock = some k) := fun k h1 h2 e => by
    rcases e with e | e | e
    · omega
    · have := hr.dst.below k e; omega
    · have := own_below hr.pth k e; omega
  refine ⟨h.rN, h.inN, Nat.le_trans h.size hc.size, h.chg.trans hc ?_, hc.own h.own ?_, h.at_, ⟨vE, vF, pv', hr'⟩, (hc.block _ (by omega) (hN _ (by omega) (by omega))).trans h.tal, (hc.block _ (by omega) (hN _ (by omega) (by omega))).trans h.box, (hc.block _ (by omega) (hN _ (by omega) (by omega))).trans h.res⟩
  · intro k hk e
    rcases e with e | e | e
    · exact .inl e
    · have := hr.dst.below k e; omega
    · have := own_below hr.pth k e; omega
  · intro k hk e
    rcases e with e | e | e
    · subst e; exact hr.xR hk
    · exact hr.px (by rw [hk]; simp) (by rw [hk, e])
    · exact own_types h.own hr.pth (by decide) k hk e
end
end Go.Proofs.Ybulkcjdg
