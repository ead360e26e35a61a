import Derived.Test.YbulkcjdgSearch
namespace Go.Proofs.Ybulkcjdg
open Go.RowKit
open Go.Deep (blk_alloc_lt blk_alloc_new nblk_alloc blk_setCell_other nblk_setCell)
set_option linter.unusedVariables false
set_option linter.unusedSimpArgs false

theorem Yba.info4 : (Yba.prog.info? 4).map (fun i => (i.zero, i.size, i.bytes)) = some (some (.bool false), 1, 1) := by kernel_rfl

/-- What the law is given, in the world in which it begins. -/
structure LI (w : World) (sa aa ra ma ba za ia : Option Addr) (sl al rl ml bl zl il : Nat) (S : List (List Int)) (A Rc : List Bool) (M : List Int) (Bq Zq : List Bool) (I : List Int) : Prop where
  hS : ∀ q, StepsAt w w.heap.size sa sl S q
  hA : BoolsAt w w.heap.size aa al A
  hRc : BoolsAt w w.heap.size ra rl Rc
  mlen : M.length = ml
  mrow : RowAt w w.heap.size ma ml (fun j => .int .i16 (M.getD j 0))
  mbd : ∀ x ∈ M, -32768 ≤ x ∧ x ≤ 32767
  hBq : BoolsAt w w.heap.size ba bl Bq
  hZq : BoolsAt w w.heap.size za zl Zq
  ilen : I.length = il
  irow : RowAt w w.heap.size ia il (fun j => .int .i8 (I.getD j 0))
  ibd : ∀ x ∈ I, -128 ≤ x ∧ x ≤ 127
  inil : ia = none → il = 0

/-- A row of bools that is filled from its head. -/
def fill (B : List Bool) (k j : Nat) : Value := .bool (if j < k then B.getD j false else false)
theorem fill_step (B : List Bool) (k j : Nat) : (if j = k then Value.bool (B.getD k false) else fill B k j) = fill B (k + 1) j := by
  unfold fill
  by_cases h : j = k
  · subst h; simp
  · rw [if_neg h]
    by_cases h2 : j < k
    · rw [if_pos h2, if_pos (by omega)]
    · rw [if_neg h2, if_neg (by omega)]

/-- The two rows of bools in the making. -/
structure L1 (w : World) (Bq Zq : List Bool) (k : Nat) (wr : World) : Prop where
  bel : Below w.heap.size w wr
  size : w.heap.size + 2 ≤ wr.heap.size
  bad : wr.rowIs w.heap.size 4 8 (fill Bq k)
  byz : wr.rowIs (w.heap.size + 1) 4 8 (fill Zq k)
theorem L1.start (w : World) (Bq Zq : List Bool) : L1 w Bq Zq 0 ((w.alloc (.cells (madeCells #[.bool false] 8) 4)).alloc (.cells (madeCells #[.bool false] 8) 4)) := by
  refine ⟨((Below.refl _ _).alloc (Nat.le_refl _) _).alloc (by simp) _, by simp, ?_, ?_⟩
  · exact ((World.rowIs_made w (.bool false) 8 4).congr (fun j _ => by simp [fill])).alloc _
  · have := World.rowIs_made (w.alloc (.cells (madeCells #[.bool false] 8) 4)) (.bool false) 8 4
    rw [nblk_alloc] at this
    exact this.congr (fun j _ => by simp [fill])
theorem L1.step {w wr : World} {Bq Zq : List Bool} {k : Nat} (h : L1 w Bq Zq k wr) : L1 w Bq Zq (k + 1) ((wr.setCell ⟨w.heap.size, k, none⟩ (.bool (Bq.getD k false))).setCell ⟨w.heap.size + 1, k, none⟩ (.bool (Zq.getD k false))) := by
  refine ⟨(h.bel.setCell (p := ⟨w.heap.size, k, none⟩) (Nat.le_refl _) _).setCell (p := ⟨w.heap.size + 1, k, none⟩) (by show w.heap.size ≤ w.heap.size + 1; omega) _, by rw [nblk_setCell, nblk_setCell]; exact h.size, ?_, ?_⟩
  · exact ((h.bad.set k _).setOther (by show w.heap.size ≠ w.heap.size + 1; omega) _).congr fun j _ => fill_step Bq k j
  · exact ((h.byz.setOther (by show w.heap.size + 1 ≠ w.heap.size; omega) _).set k _).congr fun j _ => fill_step Zq k j

/-- The two rows, the topology and the graph. -/
structure P1 (w : World) (Bq Zq : List Bool) (lo : Int) (sv av zv : Value) (T : Nat) (wc : World) : Prop where
  bel : Below w.heap.size w wc
  tN : w.heap.size + 2 ≤ T
  size : T + 2 ≤ wc.heap.size
  bad : wc.rowIs w.heap.size 4 8 (fun j => .bool (Bq.getD j false))
  byz : wc.rowIs (w.heap.size + 1) 4 8 (fun j => .bool (Zq.getD j false))
  top : wc.heap[T]? = some (.cells #[.int .i64 lo, sv, av] 59 (0, 0))
  gr : wc.heap[T + 1]? = some (.cells #[.iface 57 (.pointer (some ⟨T, 0, none⟩)), .slice (some ⟨w.heap.size, 0, none⟩) 8 8, .slice none 0 0, zv, .slice none 0 0, .slice none 0 0] 65 (0, 0))
theorem P1.start {w wr : World} {Bq Zq : List Bool} (h : L1 w Bq Zq 8 wr) (lo : Int) (sv av zv : Value) : P1 w Bq Zq lo sv av zv wr.heap.size ((wr.alloc (.cells #[.int .i64 lo, sv, av] 59)).alloc (.cells #[.iface 57 (.pointer (some ⟨wr.heap.size, 0, none⟩)), .slice (some ⟨w.heap.size, 0, none⟩) 8 8, .slice none 0 0, zv, .slice none 0 0, .slice none 0 0] 65)) := by
  have hs := h.size
  refine ⟨(h.bel.alloc (by omega) _).alloc (by simp; omega) _, hs, by simp, ?_, ?_, ?_, ?_⟩
  · exact ((h.bad.alloc _).alloc _).congr fun j hj => by simp [fill, hj]
  · exact ((h.byz.alloc _).alloc _).congr fun j hj => by simp [fill, hj]
  · rw [blk_alloc_lt _ _ _ (by simp), blk_alloc_new]
  · have e : wr.heap.size + 1 = (wr.alloc (.cells #[.int .i64 lo, sv, av] 59)).heap.size := by simp
    rw [e, blk_alloc_new]
theorem P1.byz_on {w wc : World} {Bq Zq : List Bool} {lo : Int} {sv av zv : Value} {T : Nat} (h : P1 w Bq Zq lo sv av zv T wc) (z : Value) : P1 w Bq Zq lo sv av z T (wc.setCell ⟨T + 1, 3, none⟩ z) := by
  have hT := h.tN
  refine ⟨h.bel.setCell (p := ⟨T + 1, 3, none⟩) (by show w.heap.size ≤ T + 1; omega) _, hT, by rw [nblk_setCell]; exact h.size, h.bad.setOther (by show w.heap.size ≠ T + 1; omega) _, h.byz.setOther (by show w.heap.size + 1 ≠ T + 1; omega) _, ?_, ?_⟩
  · rw [blk_setCell_other _ _ _ _ (by show T ≠ T + 1; omega)]; exact h.top
  · rw [heap_setCell_same wc (T + 1) 3 _ _ z h.gr]; rfl

theorem P1.alloc {w wc : World} {Bq Zq : List Bool} {lo : Int} {sv av zv : Value} {T : Nat} (h : P1 w Bq Zq lo sv av zv T wc) (o : Obj) : P1 w Bq Zq lo sv av zv T (wc.alloc o) := by
  have hT := h.tN
  have hs := h.size
  exact ⟨h.bel.alloc (by omega) _, hT, by rw [nblk_alloc]; omega, h.bad.alloc _, h.byz.alloc _, (blk_alloc_lt _ _ _ (by omega)).trans h.top, (blk_alloc_lt _ _ _ (by omega)).trans h.gr⟩
theorem P1.setCell {w wc : World} {Bq Zq : List Bool} {lo : Int} {sv av zv : Value} {T : Nat} (h : P1 w Bq Zq lo sv av zv T wc) {p : Addr} (hp : T + 2 ≤ p.block) (v : Value) : P1 w Bq Zq lo sv av zv T (wc.setCell p v) := by
  have hT := h.tN
  have hs := h.size
  exact ⟨h.bel.setCell (by omega) _, hT, by rw [nblk_setCell]; omega, h.bad.setOther (by omega) _, h.byz.setOther (by omega) _, (blk_setCell_other _ _ _ _ (by omega)).trans h.top, (blk_setCell_other _ _ _ _ (by omega)).trans h.gr⟩

/-- .. and the rule, and the path that the search is handed. -/
structure P2 (w : World) (Bq Zq : List Bool) (lo : Int) (sv av zv rv mv : Value) (T R : Nat) (vin : Value) (I : List Int) (wc : World) : Prop where
  p1 : P1 w Bq Zq lo sv av zv T wc
  rT : T + 2 ≤ R
  size : R + 1 ≤ wc.heap.size
  rule : wc.heap[R]? = some (.cells #[.pointer (some ⟨T + 1, 0, none⟩), rv, mv, .int .i64 0, .slice none 0 0, .slice none 0 0, .bool false] 68 (0, 0))
  own : OwnI w.heap.size wc vin I
  inX : ∀ k, vin.ownBlock = some k → R < k
/-- The path that the search is handed, in the making. -/
structure L2 (w : World) (Bq Zq : List Bool) (lo : Int) (sv av zv rv mv : Value) (T R N : Nat) (I : List Int) (k : Nat) (wr : World) : Prop where
  p1 : P1 w Bq Zq lo sv av zv T wr
  rT : T + 2 ≤ R
  nR : R < N
  size : N + 1 ≤ wr.heap.size
  rule : wr.heap[R]? = some (.cells #[.pointer (some ⟨T + 1, 0, none⟩), rv, mv, .int .i64 0, .slice none 0 0, .slice none 0 0, .bool false] 68 (0, 0))
  row : wr.rowIs N 3 I.length (fun j => .int .i64 (if j < k then I.getD j 0 else 0))
section
variable {w wr : World} {Bq Zq : List Bool} {lo : Int} {sv av zv rv mv : Value} {T R N : Nat} {I : List Int} {k : Nat}
theorem L2.start (h : P1 w Bq Zq lo sv av zv T wr) (n : Nat) (hn : n = I.length) :
    L2 w Bq Zq lo sv av zv rv mv T wr.heap.size (wr.heap.size + 1) I 0 ((wr.alloc (.cells #[.pointer (some ⟨T + 1, 0, none⟩), rv, mv, .int .i64 0, .slice none 0 0, .slice none 0 0, .bool false] 68)).alloc (.cells (madeCells #[.int .i64 0] n) 3)) := by
  subst hn
  refine ⟨(h.alloc _).alloc _, h.size, by omega, by simp, ?_, ?_⟩
  · rw [blk_alloc_lt _ _ _ (by simp), blk_alloc_new]
  · have := World.rowIs_made (wr.alloc (.cells #[.pointer (some ⟨T + 1, 0, none⟩), rv, mv, .int .i64 0, .slice none 0 0, .slice none 0 0, .bool false] 68)) (.int .i64 0) I.length 3
    rw [nblk_alloc] at this
    exact this.congr (fun j _ => by simp)
theorem L2.step (h : L2 w Bq Zq lo sv av zv rv mv T R N I k wr) : L2 w Bq Zq lo sv av zv rv mv T R N I (k + 1) (wr.setCell ⟨N, k, none⟩ (.int .i64 (I.getD k 0))) := by
  have h1 := h.rT
  have h2 := h.nR
  refine ⟨h.p1.setCell (p := ⟨N, k, none⟩) (by show T + 2 ≤ N; omega) _, h1, h2, by rw [nblk_setCell]; exact h.size, (blk_setCell_other _ _ _ _ (by show R ≠ N; omega)).trans h.rule, (h.row.set k _).congr fun j _ => ?_⟩
  by_cases hj : j = k
  · subst hj; simp
  · rw [if_neg hj]
    by_cases h2 : j < k
    · rw [if_pos h2, if_pos (by omega)]
    · rw [if_neg h2, if_neg (by omega)]
theorem L2.done (h : L2 w Bq Zq lo sv av zv rv mv T R N I I.length wr) (hI : I.length ≤ 9223372036854775807) (n : Nat) (hn : n = I.length) : P2 w Bq Zq lo sv av zv rv mv T R (.slice (some ⟨N, 0, none⟩) n n) I wr := by
  subst hn
  have hT := h.p1.tN
  have h1 := h.rT
  have h2 := h.nR
  have h3 := h.size
  refine ⟨h.p1, h.rT, by omega, h.rule, ?_, fun k hk => by have := ob hk; omega⟩
  obtain ⟨c, hc, hn, hf⟩ := h.row
  refine ⟨by simp, .inr ⟨N, I.length, c, rfl, by omega, hc, Nat.le_refl _, by unfold maxLen; omega, by omega, ?_⟩⟩
  apply List.ext_getElem?
  intro j
  by_cases hj : j < I.length
  · have h1 := hf j hj
    simp [List.getElem?_take, hj, h1]
  · rw [List.getElem?_eq_none (by simp; omega), List.getElem?_eq_none (by simp; omega)]
theorem P2.none_ (h : P1 w Bq Zq lo sv av zv T wr) (hI : I = []) : P2 w Bq Zq lo sv av zv rv mv T wr.heap.size (.slice none 0 0) I (wr.alloc (.cells #[.pointer (some ⟨T + 1, 0, none⟩), rv, mv, .int .i64 0, .slice none 0 0, .slice none 0 0, .bool false] 68)) := by
  subst hI
  exact ⟨h.alloc _, h.size, by simp, by rw [blk_alloc_new], OwnI.nil _ _, by intro k hk; cases hk⟩
end
end Go.Proofs.Ybulkcjdg
