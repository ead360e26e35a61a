import Derived.Test.YbulkcjdgLru2
import Derived.BigQuiet
import Derived.Deep.RegionHeld3
import Derived.Deep.RegionHeldLaw
namespace Go.Proofs.Ybulkcjdg
open Go.RowKit
open Go.Deep (blk_alloc_lt blk_alloc_new nblk_alloc blk_setCell_other nblk_setCell)
set_option linter.unusedVariables false
set_option linter.unusedSimpArgs false

section
variable {B : Nat} {w w' : World} {L Mp : Nat} {m : Int} {es es' l1 l2 : List En} {x y : En}

theorem Lru.push (h : Lru B w L Mp m es) (hn : es.length ≤ 1000) (Vb : Nat) :
    Calls Yba.prog 24 #[.pointer (some ⟨L, 1, none⟩), .iface 46 (.pointer (some ⟨Vb, 0, none⟩))] w fun e w' => ∃ E V, w.heap.size ≤ E ∧ e = .returned (.pointer (some ⟨E, 0, none⟩)) ∧ (∀ x, x ∈ es → V x.e = x.v) ∧
      Ring w' L Mp m (es.length + 1) (upd V E Vb) (E :: es.map (·.e)) ∧ Chg (fun k => k = L ∨ k ∈ es.map (·.e)) w w' := by
  obtain ⟨V, hV, ⟨rfl, hb⟩ | hr⟩ := h.ring
  · refine (push_bare V (v := Vb) hb (fun _ _ => trivial)).mono ?_
    rintro e w9 ⟨E, hE, rfl, hr, hc⟩
    exact ⟨E, V, hE, rfl, hV, hr, hc.mono fun b _ hb => .inl hb⟩
  · refine (push_ring (v := Vb) hr (by omega) (by omega)).mono ?_
    rintro e w9 ⟨rfl, hr9, hc9⟩
    exact ⟨_, V, Nat.le_refl _, rfl, hV, hr9, hc9⟩

theorem Ring.c6 {len : Int} {V : Nat → Nat} {l : List Nat} (h : Ring w L Mp m len V l) : w.cell? ⟨L, 6, none⟩ = some (.map (some Mp)) := by
  obtain ⟨nx, pv, hk, _⟩ := h
  simp [World.cell?, hk.root]

theorem Lru.pushed (h : Lru B w L Mp m es) {Vb E : Nat} {k y : Int} (hb : w.heap[Vb]? = some (.cells #[.int .i64 k, .int .i64 y] 49 (0, 0))) (hn : ¬ LruS L Mp es Vb) (hB : B ≤ Vb) (hBs : B ≤ w.heap.size) (hk : k ∉ es.map (·.k)) (hw : (Lit.int .i64 k).wf = true)
    {w9 : World} {V : Nat → Nat} (hE : w.heap.size ≤ E) (hV : ∀ x, x ∈ es → V x.e = x.v) (hr : Ring w9 L Mp m (es.length + 1) (upd V E Vb) (E :: es.map (·.e))) (hc : Chg (fun k => k = L ∨ k ∈ es.map (·.e)) w w9) :
    w9.cell? ⟨L, 6, none⟩ = some (.map (some Mp)) ∧ MapI w9 Mp (es.map fun x => (x.k, x.e)) ∧ ∀ w3, MapI w3 Mp ((k, E) :: es.map fun x => (x.k, x.e)) → Chg (fun b => b = Mp) w9 w3 → Lru B w3 L Mp m (⟨E, Vb, k, y⟩ :: es) := by
  have hlt := h.lt
  have hVlt : Vb < w.heap.size := by
    rcases Nat.lt_or_ge Vb w.heap.size with h | h
    · exact h
    · rw [Array.getElem?_eq_none h] at hb; cases hb
  refine ⟨hr.c6, h.map.keep (hc.block _ h.map.lt h.Mnot), fun w3 hm3 hc3 => ?_⟩
  have hkeep : ∀ b, b < w.heap.size → b ≠ Mp → ¬ (b = L ∨ b ∈ es.map (·.e)) → w3.heap[b]? = w.heap[b]? := fun b hb h1 h2 => (hc3.block b (Nat.lt_of_lt_of_le hb hc.size) h1).trans (hc.block b hb h2)
  have hMlt := h.map.lt
  refine ⟨⟨upd V E Vb, ?_, .inr ?_⟩, ?_, ?_, ?_, ?_, hm3, h.low.1, h.low.2.1, ?_⟩
  · intro x hx
    rcases List.mem_cons.1 hx with rfl | hx
    · simp [upd]
    · have : x.e ≠ E := by have := hlt x.e (.inr (.inr ⟨x, hx, .inl rfl⟩)); omega
      simp [upd, this, hV x hx]
  · have e1 : (((⟨E, Vb, k, y⟩ : En) :: es).length : Int) = (es.length : Int) + 1 := by simp
    rw [e1]
    refine hr.keep fun b hb' => hc3.block b (hr.lt b (by simpa using hb')) ?_
    rintro rfl
    rcases hb' with h1 | h1
    · exact h.ML h1
    · rcases List.mem_cons.1 h1 with h1 | h1
      · omega
      · exact h.Mnot (.inr h1)
  · intro x hx
    rcases List.mem_cons.1 hx with rfl | hx
    · refine (hkeep _ hVlt (fun e => hn (.inr (.inl e))) ?_).trans hb
      rintro (e | e)
      · exact hn (.inl e)
      · obtain ⟨z, hz, e⟩ := List.mem_map.1 e
        exact hn (.inr (.inr ⟨z, hz, .inl e.symm⟩))
    · exact (hkeep _ (hlt _ (.inr (.inr ⟨x, hx, .inr rfl⟩))) (h.vM hx) (h.vnot hx)).trans (h.ent x hx)
  · refine List.nodup_cons.2 ⟨fun hm => ?_, h.vnd⟩
    obtain ⟨z, hz, e⟩ := List.mem_map.1 hm
    exact hn (.inr (.inr ⟨z, hz, .inr e.symm⟩))
  · exact List.nodup_cons.2 ⟨hk, h.knd⟩
  · intro x hx
    rcases List.mem_cons.1 hx with rfl | hx
    · exact hw
    · exact h.kwf x hx
  · intro x hx
    rcases List.mem_cons.1 hx with rfl | hx
    · exact ⟨by show B ≤ E; omega, hB⟩
    · exact h.low.2.2 x hx

/-- What behind 'c.elems[key] = c.order.PushFront(..)' stands. -/
theorem Lru.key (h : Lru B w L Mp m es) (k : Int) (hk : k ∉ es.map (·.k)) : k ∉ (es.map fun x => (x.k, x.e)).map Prod.fst := by
  simpa [List.map_map, Function.comp_def] using hk
theorem Lru.boxed (h : Lru B w L Mp m es) (o : Obj) : Lru B (w.drew.alloc o) L Mp m es := h.keep fun k hk => blk_alloc_lt _ _ _ (h.lt k hk)

set_option maxRecDepth 100000 in
set_option maxHeartbeats 1000000 in
theorem put_new (h : Lru B w L Mp m es) (k y : Int) (hk : k ∉ es.map (·.k)) (hw : (Lit.int .i64 k).wf = true) (hm : (es.length : Int) < m) (hm2 : m ≤ 100) (hB : B ≤ w.heap.size) :
    Calls Yba.prog 10 #[.pointer (some ⟨L, 0, none⟩), .int .i64 k, .int .i64 y] w fun e w' => ∃ E V, e = .returned (.tuple #[.int .i64 0, .bool false]) ∧ Lru B w' L Mp m (⟨E, V, k, y⟩ :: es) ∧ Chg (LruS L Mp es) w w' := by
  have hlk := h.map.miss (k := k) (h.key k hk) hw
  have hlen : ∀ j ty, (Builtin.len_ #[41] ty #[.map (some Mp)]).run Yba.prog (w.drewN j) = .ok (.int .i64 es.length) (w.drewN j) := fun j ty => by
    have := (h.map.keep (w' := w.drewN j) rfl).len ty
    simpa using this
  have hd : decide (m ≤ (es.length : Int)) = false := by simp; omega
  have c6 := h.c6
  have c0 := h.c0
  have HL := hidden2 h
  clear h
  go_enter Yba.func10, Yba.ntmps10
  go_wp2_with fail
  go_quiet (fail)
  go_wp2_with fail
  have h1 : Lru B (w.drewN nq) L Mp m es := HL.out.keep fun _ _ => rfl
  have HC1 := hidden2 (show Chg (LruS L Mp es) w (w.drewN nq) from (Chg.refl _ w).drewN _)
  have hB1 : B ≤ (w.drewN nq).heap.size := hB
  have c6 : (w.drewN nq).cell? ⟨L, 6, none⟩ = some (.map (some Mp)) := c6
  clear HL hlk hlen hd c0
  generalize w.drewN nq = w1 at *
  have HA := hidden2 (h1.boxed (.cells #[.int .i64 k, .int .i64 y] 49))
  have HP := hidden2 ((h1.boxed (.cells #[.int .i64 k, .int .i64 y] 49)).push (by omega) w1.drew.heap.size)
  have HN := hidden2 (show ¬ LruS L Mp es w1.drew.heap.size from fun hs => Nat.lt_irrefl _ (h1.lt _ hs))
  have HB := hidden2 (show (w1.drew.alloc (.cells #[.int .i64 k, .int .i64 y] 49)).heap[w1.drew.heap.size]? = some (.cells #[.int .i64 k, .int .i64 y] 49 (0, 0)) from blk_alloc_new _ _)
  have hkk := h1.key k hk
  have hLM := h1.ML
  have HC2 := hidden2 (show Chg (LruS L Mp es) w (w1.drew.alloc (.cells #[.int .i64 k, .int .i64 y] 49)) from HC1.out.drew.alloc _)
  clear h1
  go_region_held3 (fun w' => w'.cell? ⟨L, 6, none⟩ = some (.map (some Mp))) (go_keep) (first
    | (go_at_call 24; refine HP.out.mono ?_; rintro e w9 ⟨E, V, hE, rfl, hV, hr9, hc9⟩; obtain ⟨k6, hm9, hf9⟩ := HA.out.pushed HB.out HN.out hB1 (Nat.le_trans hB1 (Nat.le_of_lt (by simp [nblk_alloc]))) hk hw hE hV hr9 hc9; obtain ⟨w3, hst, hm3, hc3⟩ := hm9.store E hkk hw (by simp; omega); have k63 := hc3.cell k6 hLM.symm; have H3 := hidden2 (hf9 w3 hm3 hc3); have HC3 := hidden2 (HC2.out.trans (chg_lru (Mp := Mp) hc9) (fun b _ hb => hb)); have HC4 := hidden2 (HC3.out.trans hc3 (fun b _ hb => .inr (.inl hb))); clear hf9 hm9 hr9 hc9 hV hE hm3 hc3))
  go_wp2_with fail
  go_ret2
  exact ⟨_, _, rfl, H3.out, HC4.out⟩
end
end Go.Proofs.Ybulkcjdg
