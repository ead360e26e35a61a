import Derived.Test.YbulkcjfkDoorT3
import Derived.Test.YbulkcjfkDoorMem
import Derived.Lib.AppendStr
namespace Go.Proofs.YbulkcjfkDoor
open Go.RowKit Go.Deep
set_option linter.unusedVariables false
set_option linter.unusedSimpArgs false

theorem info5 : (Ybad.prog.info? 5).map (fun i => (i.zero, i.size, i.bytes)) = some (some (.int .u8 0), 1, 1) := by kernel_rfl
theorem one_new (w : World) (x : Value) (t : TypeId) : ∀ j u, ([x] : List Value)[j]? = some u → (w.alloc (.cells #[x] t)).cell? ((⟨w.heap.size, 0, none⟩ : Addr).add j) = some u :=
  World.news_of_block (cs := #[x]) (t := t) (fr := (0, 0)) (by rw [Go.Deep.blk_alloc_new])
/-- The slice v owns, from block B on, the bytes l. -/
def OwnB (B : Nat) (w : World) (v : Value) (l : List UInt8) : Prop := w.ownsRow B 5 1 v l.length (Lib.byteCells l)
theorem OwnB.below {B : Nat} {w : World} {v : Value} {l : List UInt8} (h : OwnB B w v l) : ∀ k, v.ownBlock = some k → B ≤ k := fun k hk => (World.ownsRow.lt h k hk).1

/-- 'b = append(b, s...)'. -/
theorem append_s {ops : Array Oper} {rest : List Oper} {o : Oper} {a : Act} {Q : Exit → Act → World → Prop} (hgd : o.guard = none) (sl x : Operand)
    (ho : o.op = .call { callee := .builtin .append, args := #[sl, x], argTypes := #[37, 9] }) {B : Nat} {w : World} {v : Value} {l : List UInt8} (s : ByteArray) (hs : a.eval sl = v) (hx : a.eval x = .string s)
    (hown : OwnB B w v l) (hlen : l.length + s.data.toList.length ≤ 100000000) (hB : B ≤ w.heap.size)
    (h : ∀ v' w', OwnB B w' v' (l ++ s.data.toList) → Below B w w' → wpList Ybad.prog ops Q rest (a.put o.dst v') w') : wpList Ybad.prog ops Q (o :: rest) a w := by
  obtain ⟨i0, hi, hz0, hz1, hz2⟩ := info_parts info5
  have hsz : s.size = s.data.toList.length := by rw [Lib.size_eq]
  refine Lib.wpList_append_own_string _ hgd sl x 37 9 ho B 5 i0 Ybad.underlying37 Ybad.underlying9 hi hz0 hz1 hz2 v l.length (Lib.byteCells l) hs hown s hx (by unfold maxLen; omega) (by omega) hB ?_
  intro v' w' hown' hgrow _
  refine h v' w' ?_ ((Below.refl B w).grown hgrow hB hown.below)
  show World.ownsRow _ _ _ _ _ _ _
  rw [Lib.byteCells_append, List.length_append, ← hsz]
  exact hown'
/-- 'b = append(b, c)': the one byte lies in a block of its own already. -/
theorem append_c {ops : Array Oper} {rest : List Oper} {o : Oper} {a : Act} {Q : Exit → Act → World → Prop} (hgd : o.guard = none) (sl x : Operand)
    (ho : o.op = .call { callee := .builtin .append, args := #[sl, x], argTypes := #[37, 37] }) {B : Nat} {w : World} {v : Value} {l : List UInt8} (c : UInt8) (z : Int) (hz : z = (c.toNat : Int)) (hs : a.eval sl = v) (hx : a.eval x = .slice (some ⟨w.heap.size, 0, none⟩) 1 1)
    (hown : OwnB B w v l) (hlen : l.length ≤ 100000000) (hB : B ≤ w.heap.size)
    (h : ∀ v' w', OwnB B w' v' (l ++ [c]) → Below B w w' → wpList Ybad.prog ops Q rest (a.put o.dst v') w') : wpList Ybad.prog ops Q (o :: rest) a (w.alloc (.cells #[.int .u8 z] 5)) := by
  obtain ⟨i0, hi, hz0, hz1, hz2⟩ := info_parts info5
  refine wpList_append_lies _ hgd sl x 37 ho B 5 i0 (.int .u8 0) 1 1 Ybad.underlying37 hi hz0 hz1 hz2 rfl (by decide) v l.length (Lib.byteCells l) hs (World.ownsRow.alloc hown _) ⟨w.heap.size, 0, none⟩ 1 1 [.int .u8 z] hx rfl (one_new _ _ _) (by simp [Value.oneCell']) (by decide) (by unfold maxLen; omega) (by omega) (by rw [nblk_alloc]; omega) (w.heap.size + 1) (by rw [nblk_alloc]) ?_
  intro g cap w' hown' hgrow hat _
  refine h _ w' ?_ (((Below.refl B w).alloc hB _).grown hgrow (by rw [nblk_alloc]; omega) hown.below)
  show World.ownsRow _ _ _ _ _ _ _
  rw [Lib.byteCells_append, List.length_append]
  subst hz
  exact hown'
set_option maxRecDepth 100000 in
set_option maxHeartbeats 1000000 in
theorem appendline_any (B : Nat) (v : Value) (l : List UInt8) (s : ByteArray) (w : World) (hown : OwnB B w v l) (hlen : l.length + s.data.toList.length ≤ 50000000) (hB : B ≤ w.heap.size) :
    Calls Ybad.prog 7 #[v, .string s] w fun e w' => ∃ v', e = .returned v' ∧ OwnB B w' v' (l ++ s.data.toList ++ [10]) ∧ Below B w w' := by
  go_enter Ybad.func7, Ybad.ntmps7
  go_wp2_with (first
    | (at_builtin; refine append_s rfl _ _ rfl s rfl rfl hown (by omega) hB ?_; intro v1 w1 hown1 hbel1)
    | (at_builtin; refine append_c rfl _ _ rfl 10 10 rfl rfl rfl hown1 (by rw [List.length_append]; omega) (Nat.le_trans hB hbel1.size) ?_; intro v2 w2 hown2 hbel2))
  go_ret
  exact ⟨v2, rfl, hown2, hbel1.trans hbel2⟩
end Go.Proofs.YbulkcjfkDoor
