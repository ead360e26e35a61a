import Derived.Test.YbulkcjdgTop
import Derived.Test.YbulkcjdgPtr
import Derived.Test.YbulkcjdgChg
import Derived.Deep.RegionLaw
namespace Go.Proofs.Ybulkcjdg
open Go.RowKit
set_option linter.unusedVariables false
set_option linter.unusedSimpArgs false

/-- The rule's state behind q sends: its struct at R, its rows from B on; X is the block of the path at hand. -/
structure Rule (B : Nat) (w : World) (R G : Nat) (rs ms : Value) (q : Nat) (vD vP : Value) (D : List Int) (Ps : List (List Int)) (pv : List Value) (X : Option Nat) : Prop where
  rB : R < B
  bs : B ≤ w.heap.size
  blk : w.heap[R]? = some (.cells #[.pointer (some ⟨G, 0, none⟩), rs, ms, .int .i64 q, vD, vP, .bool false] 68 (0, 0))
  dl : D.length = q
  pl : Ps.length = q
  dst : OwnI B w vD D
  pth : w.ownsRow B 25 1 vP q pv
  each : ∀ j, j < q → ∃ g cap, pv.getD j undef = .slice (some ⟨g, 0, none⟩) (Ps.getD j []).length cap ∧ OwnI B w (.slice (some ⟨g, 0, none⟩) (Ps.getD j []).length cap) (Ps.getD j []) ∧ vD.ownBlock ≠ some g ∧ X ≠ some g
  px : X ≠ none → X ≠ vD.ownBlock
  xR : X ≠ some R

/-- 'append1', the element's block by a letter. -/
theorem append1' {ops : Array Oper} {rest : List Oper} {o : Oper} {a : Act} {Q : Exit → Act → World → Prop} (hgd : o.guard = none) (s x : Operand)
    (ho : o.op = .call { callee := .builtin .append, args := #[s, x], argTypes := #[25, 25] }) {B : Nat} {w0 w : World} {v0 v : Value} {l : List Int} (n : Int) (H : Nat) (hH : w.heap.size = H) (hs : a.eval s = v) (hx : a.eval x = .slice (some ⟨H, 0, none⟩) 1 1)
    (hown : OwnI B w v l) (hM : Mv w0 v0 w v) (hlen : l.length ≤ 1000000) (hB : B ≤ w0.heap.size)
    (h : ∀ g cap w', OwnI B w' (.slice (some ⟨g, 0, none⟩) (l.length + 1) cap) (l ++ [n]) → Mv w0 v0 w' (.slice (some ⟨g, 0, none⟩) (l.length + 1) cap) → wpList Yba.prog ops Q rest (a.put o.dst (.slice (some ⟨g, 0, none⟩) (l.length + 1) cap)) w') :
    wpList Yba.prog ops Q (o :: rest) a (w.alloc (.cells #[.int .i64 n] 3)) := by
  subst hH
  exact append1 hgd s x ho n hs hx hown hM hlen hB h

theorem ob {g n cap k : Nat} (h : (Value.slice (some ⟨g, 0, none⟩) n cap).ownBlock = some k) : g = k := by simpa [Value.ownBlock] using h
/-- Two rows of different element types are two blocks. -/
theorem own_types {B B' : Nat} {w : World} {v v' : Value} {e e' : TypeId} {s s' n n' : Nat} {xs xs' : List Value} (h : w.ownsRow B e s v n xs) (h' : w.ownsRow B' e' s' v' n' xs') (hne : e ≠ e') : ∀ k, v.ownBlock = some k → v'.ownBlock ≠ some k := by
  intro k hk hk'
  rcases h.2 with ⟨rfl, _⟩ | ⟨g, cap, cur, rfl, _, hg, _⟩
  · cases hk
  rcases h'.2 with ⟨rfl, _⟩ | ⟨g', cap', cur', rfl, _, hg', _⟩
  · cases hk'
  simp only [Value.ownBlock, Option.some.injEq] at hk hk'
  subst hk; subst hk'
  rw [hg] at hg'
  simp only [Option.some.injEq, Obj.cells.injEq] at hg'
  exact hne hg'.2.1

/-- Behind 'r.dsts = append(r.dsts, dst)'. -/
structure Mid1 (B : Nat) (w : World) (R G : Nat) (rs ms : Value) (q : Nat) (vD vP vE : Value) (E : List Int) (w3 : World) : Prop where
  blk : w3.heap[R]? = some (.cells #[.pointer (some ⟨G, 0, none⟩), rs, ms, .int .i64 q, vE, vP, .bool false] 68 (0, 0))
  chg : Chg (fun k => k = R ∨ vD.ownBlock = some k) w w3
  size : w.heap.size < w3.heap.size
  res : w3.heap[w.heap.size]? = some (.cells #[.bool false, .int .i64 0] 90 (0, 0))
  own : OwnI B w3 vE E
  at_ : vE.ownBlock = vD.ownBlock ∨ ∃ g, vE.ownBlock = some g ∧ w.heap.size < g
theorem mid1 {B : Nat} {w w1 : World} {R G : Nat} {rs ms : Value} {q : Nat} {vD vP vE : Value} {D E : List Int} {Ps : List (List Int)} {pv : List Value} {X : Option Nat} (hR : Rule B w R G rs ms q vD vP D Ps pv X)
    (hO : OwnI B w1 vE E) (hM : Mv (w.alloc (.cells #[.bool false, .int .i64 0] 90)) vD w1 vE) : Mid1 B w R G rs ms q vD vP vE E (w1.setCell ⟨R, 4, none⟩ vE) := by
  have hRlt : R < w.heap.size := Nat.lt_of_lt_of_le hR.rB hR.bs
  have hneD : some R ≠ vD.ownBlock := fun e => by have := hR.dst.below R e.symm; have := hR.rB; omega
  have hneE : ∀ k, vE.ownBlock = some k → k ≠ R := fun k hk e => by have := hO.below k hk; have := hR.rB; omega
  have b1 : w1.heap[R]? = some (.cells #[.pointer (some ⟨G, 0, none⟩), rs, ms, .int .i64 q, vD, vP, .bool false] 68 (0, 0)) := by
    rw [hM.grown.block R (by simp; omega) hneD, Go.Deep.blk_alloc_lt _ _ _ hRlt, hR.blk]
  have sz : w.heap.size + 1 ≤ w1.heap.size := by have := hM.grown.size; simpa using this
  refine ⟨?_, ?_, by rw [Go.Deep.nblk_setCell]; omega, ?_, ?_, ?_⟩
  · rw [heap_setCell_same w1 R 4 _ _ vE b1]; rfl
  · refine Chg.setCell ?_ (.inl (.inl rfl)) _
    exact ((Chg.refl _ w).alloc _).grown hM.grown fun k hk => .inl (.inr hk)
  · rw [Go.Deep.blk_setCell_other _ _ _ _ (by show w.heap.size ≠ R; omega), hM.grown.block w.heap.size (by simp) (fun e => by have := hR.dst.lt _ e.symm; omega), Go.Deep.blk_alloc_new]
  · exact hO.keep fun k hk => Go.Deep.blk_setCell_other _ _ _ _ (hneE k hk)
  · rcases hM.own with h | ⟨g, h1, h2⟩
    · exact .inl h
    · exact .inr ⟨g, h1, by simp at h2; omega⟩

/-- Behind 'r.paths = append(r.paths, append([]int(nil), path...))'. -/
structure Mid2 (B : Nat) (w : World) (R G : Nat) (rs ms : Value) (q : Nat) (vD vP vE vF : Value) (E p : List Int) (pv : List Value) (g np cap : Nat) (w6 : World) : Prop where
  blk : w6.heap[R]? = some (.cells #[.pointer (some ⟨G, 0, none⟩), rs, ms, .int .i64 q, vE, vF, .bool false] 68 (0, 0))
  chg : Chg (fun k => k = R ∨ vD.ownBlock = some k ∨ vP.ownBlock = some k) w w6
  size : w.heap.size < w6.heap.size
  res : w6.heap[w.heap.size]? = some (.cells #[.bool false, .int .i64 0] 90 (0, 0))
  ownE : OwnI B w6 vE E
  atE : vE.ownBlock = vD.ownBlock ∨ ∃ g, vE.ownBlock = some g ∧ w.heap.size < g
  ownF : w6.ownsRow B 25 1 vF (q + 1) (pv ++ [.slice (some ⟨g, 0, none⟩) np cap])
  atF : vF.ownBlock = vP.ownBlock ∨ ∃ g, vF.ownBlock = some g ∧ w.heap.size < g
  new : OwnI B w6 (.slice (some ⟨g, 0, none⟩) np cap) p
  lt : w.heap.size < g
  ne : vE.ownBlock ≠ some g

theorem mid2 {B : Nat} {w w3 w2 w5 : World} {R G : Nat} {rs ms : Value} {q : Nat} {vD vP vE : Value} {D E p : List Int} {Ps : List (List Int)} {pv : List Value} {X : Option Nat} {g2 np cap2 g5 cap5 : Nat} (hR : Rule B w R G rs ms q vD vP D Ps pv X)
    (m : Mid1 B w R G rs ms q vD vP vE E w3) (hown2 : w2.ownsRow B 3 1 (.slice (some ⟨g2, 0, none⟩) np cap2) np (p.map (Value.int .i64))) (hp : p.length = np) (hgrow2 : w3.drew.grownBy w2 (Value.ownBlock (.slice none 0 0))) (hat2 : Value.ownBlock (.slice none 0 0) = some g2 ∨ g2 = w3.heap.size)
    (hown5 : w5.ownsRow B 25 1 (.slice (some ⟨g5, 0, none⟩) (q + 1) cap5) (q + 1) (pv ++ [.slice (some ⟨g2, 0, none⟩) np cap2])) (hgrow5 : (w2.alloc (.cells #[.slice (some ⟨g2, 0, none⟩) np cap2] 25)).grownBy w5 vP.ownBlock) (hat5 : vP.ownBlock = some g5 ∨ g5 = w2.heap.size + 1) :
    Mid2 B w R G rs ms q vD vP vE (.slice (some ⟨g5, 0, none⟩) (q + 1) cap5) E p pv g2 np cap2 (w5.setCell ⟨R, 5, none⟩ (.slice (some ⟨g5, 0, none⟩) (q + 1) cap5)) := by
  have hRB := hR.rB
  have hRlt : R < w.heap.size := Nat.lt_of_lt_of_le hR.rB hR.bs
  have hs3 := m.size
  have hs2 : w3.heap.size ≤ w2.heap.size := hgrow2.size
  have hs5 : w2.heap.size + 1 ≤ w5.heap.size := by have := hgrow5.size; simpa using this
  have hneP : vP.ownBlock ≠ some R := fun e => by have := (hR.pth.lt R e).1; omega
  have hg2 : g2 = w3.heap.size := by rcases hat2 with h | h; cases h; exact h
  have hB2 : ∀ k, k < w3.heap.size → w2.heap[k]? = w3.heap[k]? := fun k hk => hgrow2.block k hk (by simp [Value.ownBlock])
  have hB5 : ∀ k, k < w2.heap.size → vP.ownBlock ≠ some k → w5.heap[k]? = w2.heap[k]? := fun k hk hn => by
    rw [hgrow5.block k (by simp; omega) (fun e => hn e.symm), Go.Deep.blk_alloc_lt _ _ _ hk]
  have hPlt : ∀ k, vP.ownBlock = some k → k < w.heap.size := fun k hk => (hR.pth.lt k hk).2
  have hBg5 : B ≤ g5 := own_below hown5 g5 rfl
  have hBE := m.own.below
  have hEP : ∀ k, vE.ownBlock = some k → vP.ownBlock ≠ some k := fun k hk hp' => by
    rcases m.at_ with h | ⟨g, h1, h2⟩
    · exact own_types hR.dst hR.pth (by decide) k (h ▸ hk) hp'
    · have := hPlt k hp'; rw [h1] at hk; cases hk; omega
  have hE5 : ∀ k, vE.ownBlock = some k → w5.heap[k]? = w3.heap[k]? := fun k hk => by
    have hk3 := m.own.lt k hk
    rw [hB5 k (by omega) (hEP k hk), hB2 k hk3]
  have b5 : w5.heap[R]? = some (.cells #[.pointer (some ⟨G, 0, none⟩), rs, ms, .int .i64 q, vE, vP, .bool false] 68 (0, 0)) := by
    rw [hB5 R (by omega) hneP, hB2 R (by omega), m.blk]
  refine ⟨?_, ?_, by rw [Go.Deep.nblk_setCell]; omega, ?_, ?_, m.at_, ?_, ?_, ?_, by omega, ?_⟩
  · rw [heap_setCell_same w5 R 5 _ _ _ b5]; rfl
  · refine Chg.setCell ?_ (.inl (.inl rfl)) _
    refine Chg.grown (Chg.alloc (Chg.grown (w' := w3) ?_ ⟨hgrow2.os, hgrow2.tape, hgrow2.output, hgrow2.size, hgrow2.block⟩ ?_) _) hgrow5 fun k hk => .inl (.inr (.inr hk))
    · exact m.chg.mono fun k _ h => by rcases h with h | h; exact .inl h; exact .inr (.inl h)
    · intro k hk; cases hk
  · rw [Go.Deep.blk_setCell_other _ _ _ _ (by show w.heap.size ≠ R; omega), hB5 _ (by omega) (fun e => by have := hPlt _ e; omega), hB2 _ (by omega), m.res]
  · exact m.own.keep fun k hk => by
      rw [Go.Deep.blk_setCell_other _ _ _ _ (by show k ≠ R; have := hBE k hk; omega), hE5 k hk]
  · refine Chg.owns (S := fun k => k = R) (w := w5) ?_ hown5 (by intro k hk; cases hk; show ¬ g5 = R; omega)
    exact (Chg.refl (fun k => k = R) w5).setCell (p := ⟨R, 5, none⟩) (.inl rfl) _
  · rcases hat5 with h | h
    · exact .inl h.symm
    · exact .inr ⟨g5, rfl, by omega⟩
  · have h0 : OwnI B w2 (.slice (some ⟨g2, 0, none⟩) np cap2) p := by show World.ownsRow _ _ _ _ _ _ _; rw [hp]; exact hown2
    refine h0.keep fun k hk => ?_
    obtain rfl := ob hk
    have := h0.lt g2 rfl
    rw [Go.Deep.blk_setCell_other _ _ _ _ (by show g2 ≠ R; omega), hB5 _ (by show g2 < _; omega) (fun e => by have := hPlt _ e; omega)]
  · intro e
    have := m.own.lt g2 e
    omega

/-- The rule behind one send more. -/
theorem rule_next {B : Nat} {w w6 w' : World} {R G : Nat} {rs ms : Value} {q : Nat} {vD vP vE vF : Value} {D p : List Int} {d : Int} {Ps : List (List Int)} {pv : List Value} {gp g np cap : Nat} (hR : Rule B w R G rs ms q vD vP D Ps pv (some gp)) (hgp : gp < w.heap.size)
    (m : Mid2 B w R G rs ms q vD vP vE vF (D ++ [d]) p pv g np cap w6) (hp : p.length = np) (hc : Chg (fun k => k = R ∨ k = w.heap.size) w6 w')
    (hb : w'.heap[R]? = some (.cells #[.pointer (some ⟨G, 0, none⟩), rs, ms, .int .i64 ((q + 1 : Nat) : Int), vE, vF, .bool false] 68 (0, 0))) :
    Rule B w' R G rs ms (q + 1) vE vF (D ++ [d]) (Ps ++ [p]) (pv ++ [.slice (some ⟨g, 0, none⟩) np cap]) (some gp) ∧ Chg (fun k => k = R ∨ vD.ownBlock = some k ∨ vP.ownBlock = some k) w w' := by
  have hRB := hR.rB
  have hbs := hR.bs
  have hRlt : R < w.heap.size := by omega
  have hDlt := hR.dst.lt
  have hPlt : ∀ k, vP.ownBlock = some k → k < w.heap.size := fun k hk => (hR.pth.lt k hk).2
  have nE : ∀ k, vE.ownBlock = some k → ¬ (k = R ∨ k = w.heap.size) := fun k hk h => by
    have h1 := m.ownE.below k hk
    rcases h with h | h
    · omega
    · rcases m.atE with e | ⟨g', e, hg'⟩
      · have := hDlt k (e ▸ hk); omega
      · rw [e] at hk; cases hk; omega
  have nF : ∀ k, vF.ownBlock = some k → ¬ (k = R ∨ k = w.heap.size) := fun k hk h => by
    have h1 := own_below m.ownF k hk
    rcases h with h | h
    · omega
    · rcases m.atF with e | ⟨g', e, hg'⟩
      · have := hPlt k (e ▸ hk); omega
      · rw [e] at hk; cases hk; omega
  have hlen := hR.pth.1
  refine ⟨⟨hRB, by have := hc.size; have := m.size; omega, hb, by simp [hR.dl], by simp [hR.pl], hc.own m.ownE nE, hc.owns m.ownF nF, ?_, ?_, hR.xR⟩, m.chg.trans hc ?_⟩
  · intro j hj
    by_cases hjq : j < q
    · obtain ⟨g', cap', e1, o1, n1, x1⟩ := hR.each j hjq
      have hg'lt := o1.lt g' rfl
      have hg'B := o1.below g' rfl
      have ePs : (Ps ++ [p]).getD j [] = Ps.getD j [] := by simp [List.getElem?_append_left (show j < Ps.length by rw [hR.pl]; exact hjq)]
      have epv : (pv ++ [Value.slice (some ⟨g, 0, none⟩) np cap]).getD j undef = pv.getD j undef := by simp [List.getElem?_append_left (show j < pv.length by rw [hlen]; omega)]
      rw [ePs, epv]
      refine ⟨g', cap', e1, ?_, ?_, x1⟩
      · refine hc.own (m.chg.own o1 ?_) ?_
        · intro k hk h
          obtain rfl := ob hk
          rcases h with h | h | h
          · omega
          · exact n1 h
          · exact own_types o1 hR.pth (by decide) g' rfl h
        · intro k hk h
          obtain rfl := ob hk
          rcases h with h | h <;> omega
      · rcases m.atE with e | ⟨g'', e, hg''⟩
        · rw [e]; exact n1
        · rw [e]; intro h; cases h; omega
    · have hjq' : j = q := by omega
      subst hjq'
      have ePs : (Ps ++ [p]).getD j [] = p := by simp [List.getElem?_append_right (show Ps.length ≤ j by rw [hR.pl]; omega), hR.pl]
      have epv : (pv ++ [Value.slice (some ⟨g, 0, none⟩) np cap]).getD j undef = .slice (some ⟨g, 0, none⟩) np cap := by
        have : pv.length = j := by rw [hlen]; omega
        simp [List.getElem?_append_right (show pv.length ≤ j by omega), this]
      rw [ePs, epv, hp]
      refine ⟨g, cap, rfl, ?_, m.ne, ?_⟩
      · refine hc.own m.new ?_
        intro k hk h
        obtain rfl := ob hk
        have := m.lt
        rcases h with h | h <;> omega
      · intro h; cases h; have := m.lt; omega
  · intro _ h
    rcases m.atE with e | ⟨g', e, hg'⟩
    · exact hR.px (by simp) (by rw [h, e])
    · rw [e] at h; cases h; omega
  · intro k hk h
    rcases h with h | h
    · exact .inl h
    · omega

end Go.Proofs.Ybulkcjdg
