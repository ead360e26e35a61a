import Derived.Test.YbulkcjdgLaw2
namespace Go.Proofs.Ybulkcjdg
open Go.RowKit
open Go.Deep (blk_alloc_lt blk_alloc_new nblk_alloc blk_setCell_other nblk_setCell)
set_option linter.unusedVariables false
set_option linter.unusedSimpArgs false

theorem own_not {B : Nat} {w : World} {v : Value} {l : List Int} {k : Nat} {c : Array Value} {t : TypeId} (h : OwnI B w v l) (hk : w.heap[k]? = some (.cells c t (0, 0))) (ht : t ≠ 3) : v.ownBlock ≠ some k := by
  intro e
  rcases h.2 with ⟨rfl, _⟩ | ⟨g, cap, cur, rfl, _, hg, _⟩
  · cases e
  · obtain rfl := ob e
    rw [hk] at hg
    simp only [Option.some.injEq, Obj.cells.injEq] at hg
    exact ht hg.2.1
theorem OwnI.slice {B : Nat} {w : World} {v : Value} {l : List Int} (h : OwnI B w v l) : ∃ a c, v = .slice a l.length c := by
  rcases h.2 with ⟨rfl, hn⟩ | ⟨g, cap, cur, rfl, _⟩
  · exact ⟨none, 0, by rw [hn]⟩
  · exact ⟨_, _, rfl⟩
theorem owns_slice {B : Nat} {w : World} {e : TypeId} {v : Value} {n : Nat} {xs : List Value} (h : w.ownsRow B e 1 v n xs) : ∃ a c, v = .slice a n c := by
  rcases h.2 with ⟨rfl, hn⟩ | ⟨g, cap, cur, rfl, _⟩
  · exact ⟨none, 0, by rw [hn]⟩
  · exact ⟨_, _, rfl⟩

/-- slices.Equal at two slices of the call's own that hold the same numbers. -/
theorem equal_own {B B' : Nat} {w : World} {v v' : Value} {l : List Int} (h : OwnI B w v l) (h' : OwnI B' w v' l) (hl : l.length ≤ 1000000) :
    Calls Yba.prog 20 #[v, v'] w fun e w' => e = .returned (.bool true) ∧ ∃ m, w' = w.drewN m := by
  by_cases h0 : 0 < l.length
  · obtain ⟨g, cap, rfl, _, _⟩ := h.form h0
    obtain ⟨g', cap', rfl, _, _⟩ := h'.form h0
    exact equal_some g 0 g' 0 cap cap' l.length (fun j => l.getD j 0) hl w (fun j hj => by rw [Nat.zero_add]; exact h.cell j hj) (fun j hj => by rw [Nat.zero_add]; exact h'.cell j hj)
  · have e0 : l.length = 0 := by omega
    obtain ⟨a, c, rfl⟩ := h.slice
    obtain ⟨a', c', rfl⟩ := h'.slice
    rw [e0]
    exact equal_none a a' c c' w

/-- What the law reads of the rule behind the search, in any later world. -/
structure Rd (B : Nat) (R G : Nat) (rs ms : Value) (n : Nat) (D : List Int) (Ps : List (List Int)) (vD vP : Value) (pv : List Value) (wr : World) : Prop where
  blk : wr.heap[R]? = some (.cells #[.pointer (some ⟨G, 0, none⟩), rs, ms, .int .i64 n, vD, vP, .bool false] 68 (0, 0))
  dst : OwnI B wr vD D
  pth : wr.ownsRow B 25 1 vP n pv
  each : ∀ j, j < n → ∃ g cap, pv.getD j undef = .slice (some ⟨g, 0, none⟩) (Ps.getD j []).length cap ∧ OwnI B wr (.slice (some ⟨g, 0, none⟩) (Ps.getD j []).length cap) (Ps.getD j [])
theorem Rule.read {B : Nat} {w6 wr : World} {R G : Nat} {rs ms : Value} {n : Nat} {vD vP : Value} {D : List Int} {Ps : List (List Int)} {pv : List Value} {X : Option Nat} (h : Rule B w6 R G rs ms n vD vP D Ps pv X) (hb : Below w6.heap.size w6 wr) : Rd B R G rs ms n D Ps vD vP pv wr := by
  have hc : Chg (fun k => w6.heap.size ≤ k) w6 wr := ⟨hb.os, hb.tape, hb.output, hb.size, fun k hk _ => hb.block k hk⟩
  refine ⟨(hb.block R (Nat.lt_of_lt_of_le h.rB h.bs)).trans h.blk, hc.own h.dst (fun k hk e => by have := h.dst.lt k hk; omega), hc.owns h.pth (fun k hk e => by have := (h.pth.lt k hk).2; omega), fun j hj => ?_⟩
  obtain ⟨g, cap, e, o, _, _⟩ := h.each j hj
  exact ⟨g, cap, e, hc.own o (fun k hk e => by have := o.lt k hk; omega)⟩

/-- The law's last loop: the search's tally lies at w6.heap.size, the law's own behind it; the route at hand is v. -/
structure LW (w6 : World) (B0 : Nat) (tt : Array Value) (v : Value) (l : List Int) (a b c d : Int) (wr : World) : Prop where
  bel : Below w6.heap.size w6 wr
  size : w6.heap.size + 2 ≤ wr.heap.size
  t : wr.heap[w6.heap.size]? = some (.cells tt 71 (0, 0))
  want : wr.heap[w6.heap.size + 1]? = some (.cells #[.int .i64 a, .int .i64 b, .int .i64 c, .int .i64 d] 71 (0, 0))
  own : OwnI B0 wr v l
section
variable {w6 wr wr' : World} {B0 : Nat} {tt : Array Value} {v v' : Value} {l l' : List Int} {a b c d a' b' c' d' : Int}
theorem LW.start (h : OwnI B0 w6 v l) : LW w6 B0 tt v l 0 0 0 0 ((w6.alloc (.cells tt 71)).alloc (.cells #[.int .i64 0, .int .i64 0, .int .i64 0, .int .i64 0] 71)) := by
  refine ⟨((Below.refl _ _).alloc (Nat.le_refl _) _).alloc (by simp) _, by simp, by rw [blk_alloc_lt _ _ _ (by simp), blk_alloc_new], ?_, ?_⟩
  · have e : w6.heap.size + 1 = (w6.alloc (.cells tt 71)).heap.size := by simp
    rw [e, blk_alloc_new]
  · exact h.keep fun k hk => by have := h.lt k hk; rw [blk_alloc_lt _ _ _ (by simp; omega), blk_alloc_lt _ _ _ (by omega)]
theorem LW.more (h : LW w6 B0 tt v l a b c d wr) (hc : Chg (fun _ => False) wr wr') : LW w6 B0 tt v l a b c d wr' := by
  have hs := h.size
  exact ⟨h.bel.trans ⟨hc.os, hc.tape, hc.output, hc.size, fun k hk => hc.block k (by omega) id⟩, by have := hc.size; omega, (hc.block _ (by omega) id).trans h.t, (hc.block _ (by omega) id).trans h.want, hc.own h.own (fun _ _ e => e)⟩
theorem LW.route (h : LW w6 B0 tt v l a b c d wr) (hM : Mv wr (.slice none 0 0) wr' v') (ho : OwnI B0 wr' v' l') : LW w6 B0 tt v' l' a b c d wr' := by
  have hc : Chg (fun _ => False) wr wr' := ⟨hM.grown.os, hM.grown.tape, hM.grown.output, hM.grown.size, fun k hk _ => hM.grown.block k hk (by simp [Value.ownBlock])⟩
  have h1 := h.more hc
  exact ⟨h1.bel, h1.size, h1.t, h1.want, ho⟩
theorem LW.tally (h : LW w6 B0 tt v l a b c d wr) (i : Nat) (x : Int) (hx : #[Value.int .i64 a, .int .i64 b, .int .i64 c, .int .i64 d].setIfInBounds i (.int .i64 x) = #[.int .i64 a', .int .i64 b', .int .i64 c', .int .i64 d']) :
    LW w6 B0 tt v l a' b' c' d' (wr.setCell ⟨w6.heap.size + 1, i, none⟩ (.int .i64 x)) := by
  have hs := h.size
  refine ⟨h.bel.setCell (p := ⟨w6.heap.size + 1, i, none⟩) (by show w6.heap.size ≤ w6.heap.size + 1; omega) _, by rw [nblk_setCell]; exact hs, (blk_setCell_other _ _ _ _ (by show w6.heap.size ≠ w6.heap.size + 1; omega)).trans h.t, by rw [heap_setCell_same wr _ i _ _ _ h.want, hx], ?_⟩
  exact h.own.keep fun k hk => blk_setCell_other _ _ _ _ (by rintro rfl; exact own_not h.own h.want (by decide) hk)
theorem LW.vals (h : LW w6 B0 tt v l a b c d wr) (ha : a = a') (hb : b = b') (hc : c = c') (hd : d = d') : LW w6 B0 tt v l a' b' c' d' wr := by subst ha; subst hb; subst hc; subst hd; exact h
theorem LW.cells (h : LW w6 B0 tt v l a b c d wr) :
    wr.cell? ⟨w6.heap.size + 1, 0, none⟩ = some (.int .i64 a) ∧ wr.cell? ⟨w6.heap.size + 1, 1, none⟩ = some (.int .i64 b) ∧ wr.cell? ⟨w6.heap.size + 1, 2, none⟩ = some (.int .i64 c) ∧ wr.cell? ⟨w6.heap.size + 1, 3, none⟩ = some (.int .i64 d) ∧ ∀ i, wr.frozen? ⟨w6.heap.size + 1, i, none⟩ = false :=
  ⟨by simp [World.cell?, h.want], by simp [World.cell?, h.want], by simp [World.cell?, h.want], by simp [World.cell?, h.want], fun i => by simp [World.frozen?, h.want]⟩
end
end Go.Proofs.Ybulkcjdg
