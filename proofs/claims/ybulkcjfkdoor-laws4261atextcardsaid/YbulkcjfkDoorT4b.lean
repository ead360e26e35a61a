import Derived.Test.YbulkcjfkDoorT4
import Derived.Deep.AppendSrc
import Derived.Lib.ConvBytes
namespace Go.Proofs.YbulkcjfkDoor
open Go.RowKit Go.Deep
set_option linter.unusedVariables false
set_option linter.unusedSimpArgs false

theorem setCells_heap (g : Nat) (t : TypeId) (fz : Nat × Nat) : ∀ (vs : List Value) (o : Nat) (w : World) (cur : Array Value), w.heap[g]? = some (.cells cur t fz) → o + vs.length ≤ cur.size →
    ∃ cur' : Array Value, (w.setCells g o vs).heap[g]? = some (.cells cur' t fz) ∧ cur'.size = cur.size ∧ cur'.toList = cur.toList.take o ++ vs ++ cur.toList.drop (o + vs.length)
  | [], o, w, cur, h, hl => ⟨cur, h, rfl, by simp⟩
  | v :: r, o, w, cur, h, hl => by
    have h1 := Lib.heap_setCell_same (i := o) h v
    have ho : o < cur.size := by simp at hl; omega
    obtain ⟨c', h2, h3, h4⟩ := setCells_heap g t fz r (o + 1) (w.setCell ⟨g, o, none⟩ v) _ h1 (by simp at hl ⊢; omega)
    refine ⟨c', h2, by rw [h3]; simp, ?_⟩
    rw [h4, Array.toList_setIfInBounds]
    have e1 : (cur.toList.set o v).take (o + 1) = cur.toList.take o ++ [v] := by
      rw [List.take_add_one, List.take_set_of_le (Nat.le_refl _)]
      simp [ho]
    have e2 : (cur.toList.set o v).drop (o + 1 + r.length) = cur.toList.drop (o + (v :: r).length) := by
      rw [List.drop_set_of_lt (by omega)]
      congr 1
      simp
      omega
    rw [e1, e2]
    simp
/-- The slice v owns, from block B on, the bytes l; its row may bear a mark behind its last cell. -/
def OwnM (B : Nat) (w : World) (v : Value) (l : List UInt8) : Prop :=
  ∃ g cap cur fz, v = .slice (some ⟨g, 0, none⟩) l.length cap ∧ B ≤ g ∧ w.heap[g]? = some (.cells cur 5 fz) ∧ (fz = (0, 0) ∨ cap ≤ fz.1) ∧ l.length ≤ cap ∧ cur.size = cap ∧ cur.toList.take l.length = Lib.byteCells l
theorem OwnM.cells {B : Nat} {w : World} {l : List UInt8} {g cap : Nat} {cur : Array Value} {fz : Nat × Nat} (hg : w.heap[g]? = some (.cells cur 5 fz)) (ht : cur.toList.take l.length = Lib.byteCells l) : ∀ j u, (Lib.byteCells l)[j]? = some u → w.cell? ((⟨g, 0, none⟩ : Addr).add j) = some u := by
  intro j u hj
  rw [← ht, List.getElem?_take] at hj
  split at hj
  · rw [Lib.addr_add, Nat.zero_add]
    simp only [World.cell?, hg]
    simpa using hj
  · cases hj
theorem run_append_m (B : Nat) (w : World) (v : Value) (l l2 : List UInt8) (tx ty : TypeId) (x : Value) (hs : Src Ybad.prog 1 tx x l2.length (Lib.byteCells l2) w) (hown : OwnM B w v l) (hlen : l.length + l2.length ≤ 100000000) (hB : B ≤ w.heap.size) :
    ∃ v' w', (Builtin.append_ #[37, tx] ty #[v, x]).run Ybad.prog w = .ok v' w' ∧ OwnM B w' v' (l ++ l2) ∧ Below B w w' := by
  obtain ⟨i0, hi, hz0, hz1, hz2⟩ := info_parts info5
  obtain ⟨g, cap, cur, fz, rfl, hBg, hg, hfz, hlc, hsz, htk⟩ := hown
  have hll : (Lib.byteCells l2).length = l2.length := Lib.byteCells_length l2
  have hs' : Src Ybad.prog i0.size tx x l2.length (Lib.byteCells l2) w := by rw [hz1]; exact hs
  by_cases hroom : l.length + l2.length ≤ cap
  · have hr := run_append_room_src (P := Ybad.prog) w 37 tx ty 5 i0 Ybad.underlying37 hi g 0 l.length cap x l2.length (Lib.byteCells l2) hs' hroom (fun j hj => by
      rw [hz1, Nat.zero_add, Nat.mul_one]
      have hj' : l.length + j < cur.size := by omega
      simp [World.cell?, hg, hj']) (fun j hj => by
      rw [hz1, Nat.zero_add, Nat.mul_one]
      rcases hfz with h | h
      · simp [World.frozen?, hg, h]
      · have : ¬ fz.1 ≤ l.length + j := by omega
        simp [World.frozen?, hg, this])
    rw [hz1, Nat.zero_add, Nat.mul_one] at hr
    obtain ⟨cur', h1, h2, h3⟩ := setCells_heap g 5 fz (Lib.byteCells l2) l.length w cur hg (by omega)
    have hC : Below B w (w.setCells g l.length (Lib.byteCells l2)) := by
      have : ∀ (vs : List Value) (o : Nat) (w' : World), Below B w w' → Below B w (w'.setCells g o vs) := fun vs => by
        induction vs with
        | nil => exact fun _ _ h => h
        | cons u r ih => exact fun o w' h => ih (o + 1) _ (h.setCell (p := ⟨g, o, none⟩) hBg u)
      exact this _ _ _ (Below.refl _ _)
    refine ⟨_, _, hr, ⟨g, cap, cur', fz, by rw [List.length_append], hBg, h1, hfz, by rw [List.length_append]; exact hroom, h2.trans hsz, ?_⟩, hC⟩
    rw [h3, htk, List.length_append, Lib.byteCells_append, ← hll, ← Lib.byteCells_length l, ← List.length_append]
    exact List.take_left
  · have holds := run_firstCells_some (P := Ybad.prog) w.drew i0.size l.length ⟨g, 0, none⟩ l.length cap (Lib.byteCells l) (by rw [hz1, Lib.byteCells_length, Nat.mul_one]) (OwnM.cells (B := B) (cap := cap) (w := w.drew) hg htk)
    have hr := run_append_grow_src (P := Ybad.prog) w 37 tx ty 5 i0 (.int .u8 0) Ybad.underlying37 hi hz0 (some ⟨g, 0, none⟩) l.length cap (Lib.byteCells l) holds x l2.length (Lib.byteCells l2) hs' (by omega) (by omega) (by rw [hz2]; exact growslice_fits (by omega) (by omega))
    have hge := grownCap_ge w (l.length + l2.length) cap 5
    refine ⟨_, _, hr, ⟨w.heap.size, _, _, (0, 0), by rw [List.length_append], hB, blk_alloc_new w.drew _, .inl rfl, by rw [List.length_append]; exact hge, ?_, ?_⟩, Below.alloc (a := w) (w := w.drew) (show Below B w w.drew from ⟨rfl, rfl, rfl, Nat.le_refl _, fun _ _ => rfl⟩) hB _⟩
    · rw [Array.size_append, size_zeroCells, List.size_toArray, List.length_append, Lib.byteCells_length, Lib.byteCells_length]
      simp [Value.cells]
      omega
    · rw [Array.toList_append, List.length_append, Lib.byteCells_append, ← hll, ← Lib.byteCells_length l, ← List.length_append]
      exact List.take_left
theorem append_m {ops : Array Oper} {rest : List Oper} {o : Oper} {a : Act} {Q : Exit → Act → World → Prop} (hgd : o.guard = none) (sl x : Operand) (tx : TypeId)
    (ho : o.op = .call { callee := .builtin .append, args := #[sl, x], argTypes := #[37, tx] }) {B : Nat} {w : World} {v xv : Value} {l : List UInt8} (l2 : List UInt8) (hs : a.eval sl = v) (hx : a.eval x = xv)
    (hsrc : Src Ybad.prog 1 tx xv l2.length (Lib.byteCells l2) w) (hown : OwnM B w v l) (hlen : l.length + l2.length ≤ 100000000) (hB : B ≤ w.heap.size)
    (h : ∀ v' w', OwnM B w' v' (l ++ l2) → Below B w w' → wpList Ybad.prog ops Q rest (a.put o.dst v') w') : wpList Ybad.prog ops Q (o :: rest) a w := by
  refine wpList_plain hgd fun K hK => ?_
  obtain ⟨v', w', hr, h2, h3⟩ := run_append_m B w v l l2 tx o.type xv hsrc hown hlen hB
  unfold Oper.wp execOp
  simp only [ho, resolve, invoke, builtin, Sem.run_bind, Sem.run_pure, Result.andThen_ok, List.map_toArray, List.map_cons, List.map_nil, hs, hx, hr]
  exact hK _ _ (h v' w' h2 h3)
theorem src_s (s : ByteArray) (w : World) : Src Ybad.prog 1 9 (.string s) s.data.toList.length (Lib.byteCells s.data.toList) w := by
  have h := Src.ofString (P := Ybad.prog) w Ybad.underlying9 s
  rw [Lib.size_eq] at h
  exact h
theorem src_c (c : UInt8) (z : Int) (hz : z = (c.toNat : Int)) (X : Nat) (w : World) (hX : w.heap[X]? = some (.cells #[.int .u8 z] 5)) : Src Ybad.prog 1 37 (.slice (some ⟨X, 0, none⟩) 1 1) ([c] : List UInt8).length (Lib.byteCells [c]) w := by
  subst hz
  exact Src.ofSlice (P := Ybad.prog) w Ybad.underlying37 ⟨X, 0, none⟩ 1 1 (Lib.byteCells [c]) rfl (World.news_of_block (cs := #[.int .u8 c.toNat]) (t := 5) (fr := (0, 0)) hX) (Lib.byteCells_one _)
theorem OwnM.alloc {B : Nat} {w : World} {v : Value} {l : List UInt8} (h : OwnM B w v l) (o : Obj) : OwnM B (w.alloc o) v l := by
  obtain ⟨g, cap, cur, fz, e, hBg, hg, r⟩ := h
  exact ⟨g, cap, cur, fz, e, hBg, (blk_alloc_lt _ _ _ (Array.getElem?_eq_some_iff.1 hg).1).trans hg, r⟩
theorem OwnM.conv (w : World) (s : ByteArray) : OwnM w.heap.size (Lib.bytesWorld w 5 s) (.slice (some ⟨w.heap.size, 0, none⟩) s.size (grownCap w s.size 0 5)) s.data.toList := by
  have hge := grownCap_ge w s.size 0 5
  have hs : s.data.toList.length = s.size := by rw [Lib.size_eq]
  have hcs : (Lib.bytesCells w 5 s).size = grownCap w s.size 0 5 := by
    have : s.data.size = s.size := rfl
    simp only [Lib.bytesCells, Array.size_append, Array.size_map, Array.size_replicate]
    omega
  refine ⟨w.heap.size, _, _, _, by rw [hs], Nat.le_refl _, Lib.bytesWorld_at_new w 5 s, .inr (by rw [hcs]; exact Nat.le_refl _), by rw [hs]; exact hge, hcs, ?_⟩
  have e : (Lib.bytesCells w 5 s).toList = Lib.byteCells s.data.toList ++ List.replicate (grownCap w s.size 0 5 - s.size) (.int .u8 0) := by
    simp [Lib.bytesCells, Lib.byteCells]
  rw [e, ← Lib.byteCells_length s.data.toList]
  exact List.take_left
/-- 'b = append(b, s...)'. -/
theorem append_ms {ops : Array Oper} {rest : List Oper} {o : Oper} {a : Act} {Q : Exit → Act → World → Prop} (hgd : o.guard = none) (sl x : Operand)
    (ho : o.op = .call { callee := .builtin .append, args := #[sl, x], argTypes := #[37, 9] }) {B : Nat} {w : World} {v : Value} {l : List UInt8} (s : ByteArray) (hs : a.eval sl = v) (hx : a.eval x = .string s)
    (hown : OwnM B w v l) (hlen : l.length + s.data.toList.length ≤ 100000000) (hB : B ≤ w.heap.size)
    (h : ∀ v' w', OwnM B w' v' (l ++ s.data.toList) → Below B w w' → wpList Ybad.prog ops Q rest (a.put o.dst v') w') : wpList Ybad.prog ops Q (o :: rest) a w :=
  append_m hgd sl x 9 ho s.data.toList hs hx (src_s s w) hown hlen hB h
/-- 'b = append(b, c)': the one byte lies in a block of its own already. -/
theorem append_mc {ops : Array Oper} {rest : List Oper} {o : Oper} {a : Act} {Q : Exit → Act → World → Prop} (hgd : o.guard = none) (sl x : Operand)
    (ho : o.op = .call { callee := .builtin .append, args := #[sl, x], argTypes := #[37, 37] }) {B : Nat} {w : World} {v : Value} {l : List UInt8} (c : UInt8) (z : Int) (hz : z = (c.toNat : Int)) (hs : a.eval sl = v) (hx : a.eval x = .slice (some ⟨w.heap.size, 0, none⟩) 1 1)
    (hown : OwnM B w v l) (hlen : l.length ≤ 90000000) (hB : B ≤ w.heap.size)
    (h : ∀ v' w', OwnM B w' v' (l ++ [c]) → Below B w w' → wpList Ybad.prog ops Q rest (a.put o.dst v') w') : wpList Ybad.prog ops Q (o :: rest) a (w.alloc (.cells #[.int .u8 z] 5)) :=
  append_m hgd sl x 37 ho [c] hs hx (src_c c z hz w.heap.size _ (blk_alloc_new _ _)) (hown.alloc _) (by rw [List.length_cons, List.length_nil]; omega) (by rw [nblk_alloc]; omega) fun v' w' h1 h2 => h v' w' h1 (((Below.refl B w).alloc hB _).trans h2)
set_option maxRecDepth 100000 in
set_option maxHeartbeats 1000000 in
theorem appendline_m (B : Nat) (v : Value) (l : List UInt8) (s : ByteArray) (w : World) (hown : OwnM B w v l) (hlen : l.length + s.data.toList.length ≤ 50000000) (hB : B ≤ w.heap.size) :
    Calls Ybad.prog 7 #[v, .string s] w fun e w' => ∃ v', e = .returned v' ∧ OwnM B w' v' (l ++ s.data.toList ++ [10]) ∧ Below B w w' := by
  go_enter Ybad.func7, Ybad.ntmps7
  go_wp2_with (first
    | (at_builtin; refine append_ms rfl _ _ rfl s rfl rfl hown (by omega) hB ?_; intro v1 w1 hown1 hbel1)
    | (at_builtin; refine append_mc rfl _ _ rfl 10 10 rfl rfl rfl hown1 (by rw [List.length_append]; omega) (Nat.le_trans hB hbel1.size) ?_; intro v2 w2 hown2 hbel2))
  go_ret
  exact ⟨v2, rfl, hown2, hbel1.trans hbel2⟩
end Go.Proofs.YbulkcjfkDoor
