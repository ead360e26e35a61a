import Derived.Test.YbulkcjdgChg
import Derived.Maps.OwnSet
import Derived.Maps.OwnOps
namespace Go.Proofs.Ybulkcjdg
open Go.RowKit
open Go.Maps (Keyed has size)
set_option linter.unusedVariables false
set_option linter.unusedSimpArgs false

/-- An element is read as itself. -/
def heldR (v : Value) : Option (DataW Value × List MemPlace) := some (.held v, [])
theorem keyed3 : Keyed Yba.prog 3 := Go.Maps.int_keyed Yba.underlying3
theorem zero35 (w : World) : (zeroValue 35).run Yba.prog w = .ok (.pointer none) w := by kernel_rfl
theorem isKey (k : Int) : WideAt.IsKeyLit (.int .i64 k) := by simp [WideAt.IsKeyLit]
theorem key3 {k : Int} (h : (Lit.int .i64 k).wf = true) : keyOf Yba.prog 3 (.int .i64 k) = some (.int .i64 k) := Go.Maps.keyOf_int_mk Yba.underlying3 h

/-- The map at Mp leads each key to the node of its number. -/
def MapI (w : World) (Mp : Nat) (ks : List (Int × Nat)) : Prop :=
  ∃ D : DataW Value, w.ownsMap Yba.prog 3 heldR Mp ks.length D ∧ (∀ k, has D (.int .i64 k) = ks.any (fun x => x.1 == k)) ∧ (∀ x, x ∈ ks → D.atKey (.int .i64 x.1) (.held (.pointer none)) = .held (.pointer (some ⟨x.2, 0, none⟩))) ∧ size D = ks.length

theorem tight {w : World} {Mp n : Nat} {D : DataW Value} (h : w.ownsMap Yba.prog 3 heldR Mp n D) {n' : Nat} (hn : size D ≤ n') : w.ownsMap Yba.prog 3 heldR Mp n' D := by
  obtain ⟨es, clock, hb, F, hs, rfl⟩ := h
  exact ⟨es, clock, hb, F, by have : size (DataW.map ((es.toList.map (WideElems.rg Yba.prog 3 heldR)).foldr DataW.insert [])) = es.size := by simp [size, length_sorted]
                              omega, rfl⟩
theorem MapI.made (w : World) : MapI (w.alloc (.map #[] 0)) w.heap.size [] :=
  ⟨.map [], World.ownsMap_made w _ _ _, fun k => by simp [has], fun x hx => (by cases hx), rfl⟩
theorem MapI.keep {w w' : World} {Mp : Nat} {ks : List (Int × Nat)} (h : MapI w Mp ks) (hk : w'.heap[Mp]? = w.heap[Mp]?) : MapI w' Mp ks := by
  obtain ⟨D, ⟨es, clock, hb, r⟩, h2⟩ := h
  exact ⟨D, ⟨es, clock, hk.trans hb, r⟩, h2⟩
theorem MapI.lt {w : World} {Mp : Nat} {ks : List (Int × Nat)} (h : MapI w Mp ks) : Mp < w.heap.size := by
  obtain ⟨D, h, _⟩ := h
  exact h.lt
theorem MapI.obj {w : World} {Mp : Nat} {ks : List (Int × Nat)} (h : MapI w Mp ks) : ∃ es clock, w.heap[Mp]? = some (.map es clock) := by
  obtain ⟨D, ⟨es, clock, hb, _⟩, _⟩ := h
  exact ⟨es, clock, hb⟩
theorem MapI.hit {w : World} {Mp : Nat} {ks : List (Int × Nat)} (h : MapI w Mp ks) {k : Int} {e : Nat} (hx : (k, e) ∈ ks) (hw : (Lit.int .i64 k).wf = true) :
    (Instr.lookup 41 (.map (some Mp)) (.int .i64 k) true).run Yba.prog w = .ok (.tuple #[.pointer (some ⟨e, 0, none⟩), .bool true]) w := by
  obtain ⟨D, hD, hh, ha, _⟩ := h
  obtain ⟨v, ps, hrun, hv⟩ := hD.look_ok keyed3 Yba.underlying41 (zero35 w) (zd := .held (.pointer none)) (zp := []) rfl (key3 hw)
  have h1 : has D (.int .i64 k) = true := by rw [hh]; simp only [List.any_eq_true]; exact ⟨(k, e), hx, by simp⟩
  rw [ha (k, e) hx] at hv
  simp only [heldR, Option.some.injEq, Prod.mk.injEq, DataW.held.injEq] at hv
  rw [hrun, h1, hv.1]
theorem MapI.miss {w : World} {Mp : Nat} {ks : List (Int × Nat)} (h : MapI w Mp ks) {k : Int} (hx : k ∉ ks.map Prod.fst) (hw : (Lit.int .i64 k).wf = true) :
    (Instr.lookup 41 (.map (some Mp)) (.int .i64 k) true).run Yba.prog w = .ok (.tuple #[.pointer none, .bool false]) w := by
  obtain ⟨D, ⟨es, clock, hb, F, hs, rfl⟩, hh, _, _⟩ := h
  have h1 : has (DataW.map ((es.toList.map (WideElems.rg Yba.prog 3 heldR)).foldr DataW.insert [])) (.int .i64 k) = false := by
    rw [hh]
    rw [List.any_eq_false]
    intro x hx' hk
    exact hx (List.mem_map.2 ⟨x, hx', by simpa using hk⟩)
  rcases Go.Maps.fit_look true keyed3 Yba.underlying41 (zero35 w) hb F (key3 hw) with ⟨hrun, _, hat⟩ | ⟨e0, y, _, _, hrun, hRv, hat, _⟩
  · exact hrun
  · rw [Go.Maps.has_true_of_atKey hat] at h1; cases h1
theorem MapI.store {w : World} {Mp : Nat} {ks : List (Int × Nat)} (h : MapI w Mp ks) {k : Int} (e : Nat) (hx : k ∉ ks.map Prod.fst) (hw : (Lit.int .i64 k).wf = true) (hn : ks.length ≤ 1000000) :
    ∃ w', (Instr.mapUpdate 41 (.map (some Mp)) (.int .i64 k) (.pointer (some ⟨e, 0, none⟩))).run Yba.prog w = .ok () w' ∧ MapI w' Mp ((k, e) :: ks) ∧ Chg (fun b => b = Mp) w w' := by
  obtain ⟨D, hD, hh, ha, hsz⟩ := h
  obtain ⟨w', hrun, hD', ht⟩ := hD.store keyed3 Yba.underlying41 (by unfold maxLen; omega) (val := .pointer (some ⟨e, 0, none⟩)) (d := .held (.pointer (some ⟨e, 0, none⟩))) (ps := []) (key3 hw) rfl
  have h1 : has D (.int .i64 k) = false := by
    rw [hh, List.any_eq_false]
    intro x hx' hk
    exact hx (List.mem_map.2 ⟨x, hx', by simpa using hk⟩)
  refine ⟨w', hrun, ⟨_, hD', ?_, ?_, ?_⟩, ?_⟩
  · intro k'
    by_cases hk : k' = k
    · subst hk
      rw [Go.Maps.has_put_same hD.isMap (isKey k')]; simp
    · rw [Go.Maps.has_put_other (by intro e9; injection e9 with _ e9; exact hk e9), hh]
      simp [show (k == k') = false by simpa using fun h => hk h.symm]
  · intro x hx'
    rcases List.mem_cons.1 hx' with rfl | hx'
    · exact Go.Maps.atKey_put_same hD.isMap (isKey k) _ _
    · rw [Go.Maps.atKey_put_other (by intro e9; injection e9 with _ e9; exact hx (List.mem_map.2 ⟨x, hx', e9⟩))]
      exact ha x hx'
  · rw [Go.Maps.size_put (hD.tidy keyed3), h1, hsz]; rfl
  · exact (Chg.ofGrown ht.grown).mono fun b _ e => by cases e; rfl
theorem MapI.drop {w : World} {Mp : Nat} {ks l1 l2 : List (Int × Nat)} {k : Int} {e : Nat} (h : MapI w Mp ks) (hks : ks = l1 ++ (k, e) :: l2) (hnd : (ks.map Prod.fst).Nodup) (hw : (Lit.int .i64 k).wf = true) (ty : TypeId) :
    ∃ w', (Builtin.delete_ #[41, 3] ty #[.map (some Mp), .int .i64 k]).run Yba.prog w = .ok (.tuple #[]) w' ∧ MapI w' Mp (l1 ++ l2) ∧ Chg (fun b => b = Mp) w w' := by
  subst hks
  obtain ⟨D, hD, hh, ha, hsz⟩ := h
  obtain ⟨w', hrun, hD', ht⟩ := hD.drop keyed3 Yba.underlying41 (key3 hw) ty
  have h1 : has D (.int .i64 k) = true := by rw [hh]; simp
  have hsd := Go.Maps.size_del (k := .int .i64 k) (hD.tidy keyed3)
  rw [h1, hsz] at hsd
  simp only [List.length_append, List.length_cons, if_true] at hsd
  have hsz' : size (D.del (.int .i64 k)) = (l1 ++ l2).length := by simp only [List.length_append]; omega
  simp only [List.map_append, List.map_cons] at hnd
  have hk1 : ∀ x, x ∈ l1 ++ l2 → x.1 ≠ k := by
    intro x hx' e9
    have h2 := (List.nodup_append.1 hnd)
    rcases List.mem_append.1 hx' with h | h
    · exact h2.2.2 x.1 (List.mem_map.2 ⟨x, h, rfl⟩) k (by simp) e9
    · exact (List.nodup_cons.1 h2.2.1).1 (List.mem_map.2 ⟨x, h, e9⟩)
  refine ⟨w', hrun, ⟨_, tight hD' (by omega), ?_, ?_, hsz'⟩, (Chg.ofGrown ht.grown).mono fun b _ e => by cases e; rfl⟩
  · intro k'
    by_cases hk : k' = k
    · subst hk
      rw [Go.Maps.has_del_same]
      symm
      rw [List.any_eq_false]
      intro x hx'
      simpa using hk1 x hx'
    · rw [Go.Maps.has_del_other (by intro e9; injection e9 with _ e9; exact hk e9), hh]
      simp [show (k == k') = false by simpa using fun h => hk h.symm]
  · intro x hx'
    rw [Go.Maps.atKey_del_other (by intro e9; injection e9 with _ e9; exact hk1 x hx' e9)]
    exact ha x (by rcases List.mem_append.1 hx' with h | h <;> simp [h])
theorem MapI.len {w : World} {Mp : Nat} {ks : List (Int × Nat)} (h : MapI w Mp ks) (ty : TypeId) : (Builtin.len_ #[41] ty #[.map (some Mp)]).run Yba.prog w = .ok (.int .i64 ks.length) w := by
  obtain ⟨D, hD, _, _, hsz⟩ := h
  rw [hD.len Yba.underlying41, hsz]
end Go.Proofs.Ybulkcjdg
