import Derived.Test.YbulkcjdgLink
import Derived.Test.YbulkcjdgPtr
import Derived.Deep.QuietTactic
import Derived.BigQuiet
import Derived.BigRegion
import Derived.RegionTactic
namespace Go.Proofs.Ybulkcjdg
open Go.RowKit
open Go.Deep (blk_alloc_lt blk_alloc_new nblk_alloc blk_setCell_other nblk_setCell)
set_option linter.unusedVariables false
set_option linter.unusedSimpArgs false

/-- A pointer to the node of number a: the root lies inside the block L. -/
def ptrN (L a : Nat) : Value := if a = L then .pointer (some ⟨L, 1, none⟩) else .pointer (some ⟨a, 0, none⟩)
theorem ptrN_root (L : Nat) : ptrN L L = .pointer (some ⟨L, 1, none⟩) := by simp [ptrN]
theorem ptrN_node {L a : Nat} (h : a ≠ L) : ptrN L a = .pointer (some ⟨a, 0, none⟩) := by simp [ptrN, h]
/-- The list's root and its nodes lie in w, linked as nx and pv say. -/
structure Lk (w : World) (L Mp : Nat) (m len : Int) (V : Nat → Nat) (S : List Nat) (nx pv : Nat → Nat) : Prop where
  root : w.heap[L]? = some (.cells #[.int .i64 m, ptrN L (nx L), ptrN L (pv L), .pointer none, .nilIface, .int .i64 len, .map (some Mp)] 43 (0, 0))
  node : ∀ e, e ∈ S → e ≠ L ∧ w.heap[e]? = some (.cells #[ptrN L (nx e), ptrN L (pv e), .pointer (some ⟨L, 1, none⟩), .iface 46 (.pointer (some ⟨V e, 0, none⟩))] 38 (0, 0))
section
variable {w w' : World} {L Mp : Nat} {m len : Int} {V : Nat → Nat} {S : List Nat} {nx pv : Nat → Nat}
theorem Lk.keep (h : Lk w L Mp m len V S nx pv) (hk : ∀ k, k = L ∨ k ∈ S → w'.heap[k]? = w.heap[k]?) : Lk w' L Mp m len V S nx pv :=
  ⟨(hk L (.inl rfl)).trans h.root, fun e he => ⟨(h.node e he).1, (hk e (.inr he)).trans (h.node e he).2⟩⟩
theorem Lk.drew (h : Lk w L Mp m len V S nx pv) : Lk w.drew L Mp m len V S nx pv := h.keep (fun _ _ => rfl)
theorem Lk.drewN (h : Lk w L Mp m len V S nx pv) (n : Nat) : Lk (w.drewN n) L Mp m len V S nx pv := h.keep (fun _ _ => rfl)
theorem Lk.next_root (h : Lk w L Mp m len V S nx pv) (b : Nat) : Lk (w.setCell ⟨L, 1, none⟩ (ptrN L b)) L Mp m len V S (upd nx L b) pv := by
  refine ⟨by rw [heap_setCell_same w L 1 _ _ _ h.root, upd_same]; rfl, fun e he => ⟨(h.node e he).1, ?_⟩⟩
  rw [blk_setCell_other _ _ _ _ (h.node e he).1, upd_other _ (h.node e he).1]
  exact (h.node e he).2
theorem Lk.prev_root (h : Lk w L Mp m len V S nx pv) (b : Nat) : Lk (w.setCell ⟨L, 2, none⟩ (ptrN L b)) L Mp m len V S nx (upd pv L b) := by
  refine ⟨by rw [heap_setCell_same w L 2 _ _ _ h.root, upd_same]; rfl, fun e he => ⟨(h.node e he).1, ?_⟩⟩
  rw [blk_setCell_other _ _ _ _ (h.node e he).1, upd_other _ (h.node e he).1]
  exact (h.node e he).2
theorem Lk.len_root (h : Lk w L Mp m len V S nx pv) (n : Int) : Lk (w.setCell ⟨L, 5, none⟩ (.int .i64 n)) L Mp m n V S nx pv := by
  refine ⟨by rw [heap_setCell_same w L 5 _ _ _ h.root]; rfl, fun e he => ⟨(h.node e he).1, ?_⟩⟩
  rw [blk_setCell_other _ _ _ _ (h.node e he).1]
  exact (h.node e he).2
theorem Lk.next_node (h : Lk w L Mp m len V S nx pv) {a : Nat} (ha : a ∈ S) (b : Nat) : Lk (w.setCell ⟨a, 0, none⟩ (ptrN L b)) L Mp m len V S (upd nx a b) pv := by
  have hL := (h.node a ha).1
  refine ⟨by rw [blk_setCell_other _ _ _ _ (by show L ≠ a; exact fun e => hL e.symm), upd_other _ (fun e => hL e.symm)]; exact h.root, fun e he => ⟨(h.node e he).1, ?_⟩⟩
  by_cases hea : e = a
  · subst hea
    rw [heap_setCell_same w e 0 _ _ _ (h.node e he).2, upd_same]; rfl
  · rw [blk_setCell_other _ _ _ _ (by show e ≠ a; exact hea), upd_other _ hea]
    exact (h.node e he).2
theorem Lk.prev_node (h : Lk w L Mp m len V S nx pv) {a : Nat} (ha : a ∈ S) (b : Nat) : Lk (w.setCell ⟨a, 1, none⟩ (ptrN L b)) L Mp m len V S nx (upd pv a b) := by
  have hL := (h.node a ha).1
  refine ⟨by rw [blk_setCell_other _ _ _ _ (by show L ≠ a; exact fun e => hL e.symm), upd_other _ (fun e => hL e.symm)]; exact h.root, fun e he => ⟨(h.node e he).1, ?_⟩⟩
  by_cases hea : e = a
  · subst hea
    rw [heap_setCell_same w e 1 _ _ _ (h.node e he).2, upd_same]; rfl
  · rw [blk_setCell_other _ _ _ _ (by show e ≠ a; exact hea), upd_other _ hea]
    exact (h.node e he).2
/-- What the walk reads of a node. -/
theorem Lk.cells (h : Lk w L Mp m len V S nx pv) {e : Nat} (he : e ∈ S) : w.cell? ⟨e, 0, none⟩ = some (ptrN L (nx e)) ∧ w.cell? ⟨e, 1, none⟩ = some (ptrN L (pv e)) ∧ w.cell? ⟨e, 2, none⟩ = some (.pointer (some ⟨L, 1, none⟩)) ∧ w.cell? ⟨e, 3, none⟩ = some (.iface 46 (.pointer (some ⟨V e, 0, none⟩))) ∧ ∀ i, w.frozen? ⟨e, i, none⟩ = false := by
  have hb := (h.node e he).2
  exact ⟨by simp [World.cell?, hb], by simp [World.cell?, hb], by simp [World.cell?, hb], by simp [World.cell?, hb], fun i => by simp [World.frozen?, hb]⟩
theorem Lk.rcells (h : Lk w L Mp m len V S nx pv) : w.cell? ⟨L, 0, none⟩ = some (.int .i64 m) ∧ w.cell? ⟨L, 1, none⟩ = some (ptrN L (nx L)) ∧ w.cell? ⟨L, 2, none⟩ = some (ptrN L (pv L)) ∧ w.cell? ⟨L, 5, none⟩ = some (.int .i64 len) ∧ w.cell? ⟨L, 6, none⟩ = some (.map (some Mp)) ∧ ∀ i, w.frozen? ⟨L, i, none⟩ = false := by
  have hb := h.root
  exact ⟨by simp [World.cell?, hb], by simp [World.cell?, hb], by simp [World.cell?, hb], by simp [World.cell?, hb], by simp [World.cell?, hb], fun i => by simp [World.frozen?, hb]⟩
end
theorem info38 : ∃ j, Yba.prog.info? 38 = some j ∧ j.size ≠ 0 := by
  have h : (Yba.prog.info? 38).map (fun i => i.size) = some 4 := by kernel_rfl
  obtain ⟨j, hj, hs⟩ := Option.map_eq_some_iff.1 h
  exact ⟨j, hj, by rw [hs]; decide⟩
theorem info40 : ∃ j, Yba.prog.info? 40 = some j ∧ j.size ≠ 0 := by
  have h : (Yba.prog.info? 40).map (fun i => i.size) = some 5 := by kernel_rfl
  obtain ⟨j, hj, hs⟩ := Option.map_eq_some_iff.1 h
  exact ⟨j, hj, by rw [hs]; decide⟩

set_option maxRecDepth 100000 in
set_option maxHeartbeats 1000000 in
theorem move_any {w : World} {L Mp : Nat} {m len : Int} {V : Nat → Nat} {S : List Nat} {nx pv : Nat → Nat} (h : Lk w L Mp m len V S nx pv) (E : Nat) (hE : E ∈ S) (hp : pv E ∈ S) (hpE : pv E ≠ E) (hf : nx L ∈ S) (hfE : nx L ≠ E) (hn : nx E = L ∨ nx E ∈ S) (hnE : nx E ≠ E) (hnf : nx E ≠ nx L) :
    Calls Yba.prog 27 #[.pointer (some ⟨L, 1, none⟩), .pointer (some ⟨E, 0, none⟩), .pointer (some ⟨L, 1, none⟩)] w fun e w' => e = .returned (.tuple #[]) ∧ Lk w' L Mp m len V S (upd (upd (upd nx (pv E) (nx E)) E (nx L)) L E) (upd (upd (upd pv (nx E) (pv E)) E L) (nx L) E) ∧ Chg (fun k => k = L ∨ k ∈ S) w w' := by
  obtain ⟨j, hj, hjs⟩ := info38
  have hEL := (h.node E hE).1
  have hpL := (h.node _ hp).1
  have hfL := (h.node _ hf).1
  have hne1 := run_eql_ptr_two (P := Yba.prog) w (a := ⟨E, 0, none⟩) (b := ⟨L, 1, none⟩) Yba.underlying35 hj hjs (by intro e; cases e) (h.node E hE).2 h.root
  obtain ⟨e0, e1, e2, _, ef⟩ := h.cells hE
  obtain ⟨p0, p1, _, _, pf⟩ := h.cells hp
  obtain ⟨f0, f1, _, _, ff⟩ := h.cells hf
  obtain ⟨_, r1, r2, _, _, rf⟩ := h.rcells
  generalize hpp : pv E = p at *
  generalize hff : nx L = f at *
  generalize hnn : nx E = n at *
  rw [ptrN_node hpL] at e1
  rw [ptrN_node hfL] at r1
  have HH := show Hid (Lk w L Mp m len V S nx pv) from h
  have HP := show Hid (pv E = p) from hpp
  have HF := show Hid (nx L = f) from hff
  have HN := show Hid (nx E = n) from hnn
  clear h hpp hff hnn
  have ef0 := ef 0
  have ef1 := ef 1
  have pf0 := pf 0
  have ff1 := ff 1
  have rf1 := rf 1
  have rf2 := rf 2
  clear ef pf ff rf
  by_cases hnL : n = L
  · rw [hnL, ptrN_root] at e0
    rw [hnL] at HN
    generalize ptrN L (nx p) = xp0 at *
    generalize ptrN L (pv f) = xf1 at *
    generalize ptrN L (pv L) = xr2 at *
    clear p1 f0 hn hnE
    have FIN : Hid (Lk ((((((w.setCell ⟨p, 0, none⟩ (.pointer (some ⟨L, 1, none⟩))).setCell ⟨L, 2, none⟩ (.pointer (some ⟨p, 0, none⟩))).setCell ⟨E, 1, none⟩ (.pointer (some ⟨L, 1, none⟩))).setCell ⟨E, 0, none⟩ (.pointer (some ⟨f, 0, none⟩))).setCell ⟨L, 1, none⟩ (.pointer (some ⟨E, 0, none⟩))).setCell ⟨f, 1, none⟩ (.pointer (some ⟨E, 0, none⟩))) L Mp m len V S (upd (upd (upd nx p n) E f) L E) (upd (upd (upd pv n p) E L) f E)) := by
      have h6 := (((((HH.out.next_node hp L).prev_root p).prev_node hE L).next_node hE f).next_root E).prev_node hf E
      rw [ptrN_root, ptrN_node hpL, ptrN_node hfL, ptrN_node hEL] at h6
      rw [hnL]
      exact h6
    have CHG : Hid (Chg (fun k => k = L ∨ k ∈ S) w ((((((w.setCell ⟨p, 0, none⟩ (.pointer (some ⟨L, 1, none⟩))).setCell ⟨L, 2, none⟩ (.pointer (some ⟨p, 0, none⟩))).setCell ⟨E, 1, none⟩ (.pointer (some ⟨L, 1, none⟩))).setCell ⟨E, 0, none⟩ (.pointer (some ⟨f, 0, none⟩))).setCell ⟨L, 1, none⟩ (.pointer (some ⟨E, 0, none⟩))).setCell ⟨f, 1, none⟩ (.pointer (some ⟨E, 0, none⟩)))) :=
      ((((((Chg.refl (fun k => k = L ∨ k ∈ S) w).setCell (p := ⟨p, 0, none⟩) (.inl (.inr hp)) _).setCell (p := ⟨L, 2, none⟩) (.inl (.inl rfl)) _).setCell (p := ⟨E, 1, none⟩) (.inl (.inr hE)) _).setCell (p := ⟨E, 0, none⟩) (.inl (.inr hE)) _).setCell (p := ⟨L, 1, none⟩) (.inl (.inl rfl)) _).setCell (p := ⟨f, 1, none⟩) (.inl (.inr hf)) _
    clear hnL HN HH HP HF
    go_enter Yba.func27, Yba.ntmps27
    go_wp2
    go_region
    go_wp2
    go_region
    go_wp2
    go_end0
    exact ⟨rfl, FIN.out.drew.drew, CHG.out.drew.drew⟩
  · have hnS : n ∈ S := by rcases hn with h | h; exact absurd h hnL; exact h
    obtain ⟨_, n1, _, _, nf⟩ := HH.out.cells hnS
    have nf1 := nf 1
    rw [ptrN_node hnL] at e0
    generalize ptrN L (nx p) = xp0 at *
    generalize ptrN L (pv f) = xf1 at *
    generalize ptrN L (pv n) = xn1 at *
    generalize ptrN L (pv L) = xr2 at *
    clear p1 f0 hn nf
    have FIN : Hid (Lk ((((((w.setCell ⟨p, 0, none⟩ (.pointer (some ⟨n, 0, none⟩))).setCell ⟨n, 1, none⟩ (.pointer (some ⟨p, 0, none⟩))).setCell ⟨E, 1, none⟩ (.pointer (some ⟨L, 1, none⟩))).setCell ⟨E, 0, none⟩ (.pointer (some ⟨f, 0, none⟩))).setCell ⟨L, 1, none⟩ (.pointer (some ⟨E, 0, none⟩))).setCell ⟨f, 1, none⟩ (.pointer (some ⟨E, 0, none⟩))) L Mp m len V S (upd (upd (upd nx p n) E f) L E) (upd (upd (upd pv n p) E L) f E)) := by
      have h6 := (((((HH.out.next_node hp n).prev_node hnS p).prev_node hE L).next_node hE f).next_root E).prev_node hf E
      rw [ptrN_root, ptrN_node hpL, ptrN_node hfL, ptrN_node hEL, ptrN_node hnL] at h6
      exact h6
    have CHG : Hid (Chg (fun k => k = L ∨ k ∈ S) w ((((((w.setCell ⟨p, 0, none⟩ (.pointer (some ⟨n, 0, none⟩))).setCell ⟨n, 1, none⟩ (.pointer (some ⟨p, 0, none⟩))).setCell ⟨E, 1, none⟩ (.pointer (some ⟨L, 1, none⟩))).setCell ⟨E, 0, none⟩ (.pointer (some ⟨f, 0, none⟩))).setCell ⟨L, 1, none⟩ (.pointer (some ⟨E, 0, none⟩))).setCell ⟨f, 1, none⟩ (.pointer (some ⟨E, 0, none⟩)))) :=
      ((((((Chg.refl (fun k => k = L ∨ k ∈ S) w).setCell (p := ⟨p, 0, none⟩) (.inl (.inr hp)) _).setCell (p := ⟨n, 1, none⟩) (.inl (.inr hnS)) _).setCell (p := ⟨E, 1, none⟩) (.inl (.inr hE)) _).setCell (p := ⟨E, 0, none⟩) (.inl (.inr hE)) _).setCell (p := ⟨L, 1, none⟩) (.inl (.inl rfl)) _).setCell (p := ⟨f, 1, none⟩) (.inl (.inr hf)) _
    clear HN HH HP HF
    go_enter Yba.func27, Yba.ntmps27
    go_wp2
    go_region
    go_wp2
    go_region
    go_wp2
    go_end0
    exact ⟨rfl, FIN.out.drew.drew, CHG.out.drew.drew⟩
end Go.Proofs.Ybulkcjdg
