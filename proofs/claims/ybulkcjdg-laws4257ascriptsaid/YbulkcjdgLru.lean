import Derived.Test.YbulkcjdgMap
import Derived.Test.YbulkcjdgList4
namespace Go.Proofs.Ybulkcjdg
open Go.RowKit
open Go.Deep (blk_alloc_lt blk_alloc_new nblk_alloc blk_setCell_other nblk_setCell)
set_option linter.unusedVariables false
set_option linter.unusedSimpArgs false

/-- An entry of the lru: its node's block, its entry's block, its key and its value. -/
structure En where
  e : Nat
  v : Nat
  k : Int
  x : Int

/-- The lru at L holds the entries es, the one used last first. -/
structure Lru (B : Nat) (w : World) (L Mp : Nat) (m : Int) (es : List En) : Prop where
  ring : ∃ V : Nat → Nat, (∀ x, x ∈ es → V x.e = x.v) ∧ ((es = [] ∧ Bare w L Mp m) ∨ Ring w L Mp m es.length V (es.map (·.e)))
  ent : ∀ x, x ∈ es → w.heap[x.v]? = some (.cells #[.int .i64 x.k, .int .i64 x.x] 49 (0, 0))
  vnd : (es.map (·.v)).Nodup
  knd : (es.map (·.k)).Nodup
  kwf : ∀ x, x ∈ es → (Lit.int .i64 x.k).wf = true
  map : MapI w Mp (es.map fun x => (x.k, x.e))
  low : B ≤ L ∧ B ≤ Mp ∧ ∀ x, x ∈ es → B ≤ x.e ∧ B ≤ x.v
/-- The blocks of an lru. -/
def LruS (L Mp : Nat) (es : List En) (k : Nat) : Prop := k = L ∨ k = Mp ∨ ∃ x, x ∈ es ∧ (k = x.e ∨ k = x.v)

section
variable {B : Nat} {w w' : World} {L Mp : Nat} {m : Int} {es l1 l2 : List En} {x : En}
/-- The root's cells that never turn. -/
theorem Lru.root (h : Lru B w L Mp m es) : ∃ a1 a2 a5 : Value, w.heap[L]? = some (.cells #[.int .i64 m, a1, a2, .pointer none, .nilIface, a5, .map (some Mp)] 43 (0, 0)) := by
  obtain ⟨V, _, ⟨_, hb⟩ | ⟨nx, pv, hk, _⟩⟩ := h.ring
  · exact ⟨_, _, _, hb⟩
  · exact ⟨_, _, _, hk.root⟩
theorem Lru.node (h : Lru B w L Mp m es) (hx : x ∈ es) : ∃ a0 a1 : Value, w.heap[x.e]? = some (.cells #[a0, a1, .pointer (some ⟨L, 1, none⟩), .iface 46 (.pointer (some ⟨x.v, 0, none⟩))] 38 (0, 0)) := by
  obtain ⟨V, hV, ⟨h0, _⟩ | ⟨nx, pv, hk, _⟩⟩ := h.ring
  · subst h0; cases hx
  · have := (hk.node x.e (List.mem_map.2 ⟨x, hx, rfl⟩)).2
    rw [hV x hx] at this
    exact ⟨_, _, this⟩
theorem Lru.lt (h : Lru B w L Mp m es) : ∀ k, LruS L Mp es k → k < w.heap.size := by
  intro k hk
  have key : ∀ o : Obj, w.heap[k]? = some o → k < w.heap.size := fun o ho => by
    rcases Nat.lt_or_ge k w.heap.size with h | h
    · exact h
    · rw [Array.getElem?_eq_none h] at ho; cases ho
  rcases hk with rfl | rfl | ⟨x, hx, rfl | rfl⟩
  · obtain ⟨_, _, _, hb⟩ := h.root; exact key _ hb
  · exact h.map.lt
  · obtain ⟨_, _, hb⟩ := h.node hx; exact key _ hb
  · exact key _ (h.ent x hx)
theorem Lru.keep (h : Lru B w L Mp m es) (hk : ∀ k, LruS L Mp es k → w'.heap[k]? = w.heap[k]?) : Lru B w' L Mp m es := by
  refine ⟨?_, fun x hx => (hk _ (.inr (.inr ⟨x, hx, .inr rfl⟩))).trans (h.ent x hx), h.vnd, h.knd, h.kwf, h.map.keep (hk _ (.inr (.inl rfl))), h.low⟩
  obtain ⟨V, hV, ⟨h0, hb⟩ | hr⟩ := h.ring
  · exact ⟨V, hV, .inl ⟨h0, (hk L (.inl rfl)).trans hb⟩⟩
  · refine ⟨V, hV, .inr (hr.keep fun k hk' => hk k ?_)⟩
    rcases hk' with rfl | hk'
    · exact .inl rfl
    · obtain ⟨x, hx, rfl⟩ := List.mem_map.1 hk'
      exact .inr (.inr ⟨x, hx, .inl rfl⟩)

set_option maxRecDepth 100000 in
set_option maxHeartbeats 1000000 in
theorem get_miss (h : Lru B w L Mp m es) (k : Int) (hk : k ∉ es.map (·.k)) (hw : (Lit.int .i64 k).wf = true) :
    Calls Yba.prog 8 #[.pointer (some ⟨L, 0, none⟩), .int .i64 k] w fun e w' => e = .returned (.tuple #[.int .i64 0, .bool false]) ∧ w' = w := by
  have hlk := h.map.miss (k := k) (by simpa [List.map_map, Function.comp_def] using hk) hw
  obtain ⟨a1, a2, a5, hb⟩ := h.root
  have c6 : w.cell? ⟨L, 6, none⟩ = some (.map (some Mp)) := by simp [World.cell?, hb]
  clear h hb hk
  go_enter Yba.func8, Yba.ntmps8
  go_wp2
  go_ret2
  exact ⟨rfl, rfl⟩
end
end Go.Proofs.Ybulkcjdg
