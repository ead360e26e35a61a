import Derived.Test.YbulkcjdgList2
namespace Go.Proofs.Ybulkcjdg
open Go.RowKit
open Go.Deep (blk_alloc_lt blk_alloc_new nblk_alloc blk_setCell_other nblk_setCell)
set_option linter.unusedVariables false
set_option linter.unusedSimpArgs false

set_option maxRecDepth 100000 in
set_option maxHeartbeats 1000000 in
theorem Remove_any {w : World} {L Mp : Nat} {m len : Int} {V : Nat → Nat} {l1 l2 : List Nat} {E : Nat} (h : Ring w L Mp m len V (l1 ++ E :: l2)) (hl1 : 1 ≤ len) (hl2 : len ≤ 1000000) :
    Calls Yba.prog 22 #[.pointer (some ⟨L, 1, none⟩), .pointer (some ⟨E, 0, none⟩)] w fun e w' => e = .returned (.iface 46 (.pointer (some ⟨V E, 0, none⟩))) ∧ Ring w' L Mp m (len - 1) V (l1 ++ l2) ∧ Chg (fun k => k = L ∨ k ∈ l1 ++ E :: l2) w w' := by
  have HR := hidden2 (remove_any h hl1 hl2)
  obtain ⟨nx, pv, hk, hs, hnd⟩ := h
  obtain ⟨j4, hj4, _⟩ := info40
  have hl := fun (W : World) => run_eql_ptr_one (P := Yba.prog) W ⟨L, 1, none⟩ Yba.underlying36 hj4
  obtain ⟨_, _, e2, _, _⟩ := hk.cells (e := E) (by simp)
  clear hk hs hnd
  go_enter Yba.func22, Yba.ntmps22
  go_wp2_with (go_at_call 28; refine HR.out.mono ?_; rintro e w9 ⟨rfl, ⟨hr9, hb9⟩, hc9⟩; have e3 : w9.cell? ⟨E, 3, none⟩ = some (.iface 46 (.pointer (some ⟨V E, 0, none⟩))) := (by simp [World.cell?, hb9]); have HB := hidden2 hb9; clear hb9)
  go_ret
  exact ⟨rfl, hr9, hc9⟩

theorem Back_any {w : World} {L Mp : Nat} {m : Int} {V : Nat → Nat} {l1 : List Nat} {E : Nat} {len : Int} (h : Ring w L Mp m len V (l1 ++ [E])) (hl : 1 ≤ len) :
    Calls Yba.prog 23 #[.pointer (some ⟨L, 1, none⟩)] w fun e w' => e = .returned (.pointer (some ⟨E, 0, none⟩)) ∧ w' = w := by
  obtain ⟨nx, pv, hk, hs, hnd⟩ := h
  obtain ⟨_, _, r2, r5, _, _⟩ := hk.rcells
  have hp : pv L = E := ((seg_append l1 [] L).1 hs).2.2
  have hEL := (hk.node E (by simp)).1
  rw [hp, ptrN_node hEL] at r2
  have hne : (len == 0) = false := by simp; omega
  clear hk hs hnd hp
  go_enter Yba.func23, Yba.ntmps23
  go_wp2
  go_ret
  exact ⟨rfl, rfl⟩

/-- The list as 'newLRU' leaves it. -/
def Bare (w : World) (L Mp : Nat) (m : Int) : Prop := w.heap[L]? = some (.cells #[.int .i64 m, .pointer none, .pointer none, .pointer none, .nilIface, .int .i64 0, .map (some Mp)] 43 (0, 0))
theorem init_ring {w : World} {L Mp : Nat} {m : Int} (V : Nat → Nat) (h : Bare w L Mp m) : Ring (((w.setCell ⟨L, 1, none⟩ (.pointer (some ⟨L, 1, none⟩))).setCell ⟨L, 2, none⟩ (.pointer (some ⟨L, 1, none⟩))).setCell ⟨L, 5, none⟩ (.int .i64 0)) L Mp m 0 V [] := by
  refine ⟨fun _ => L, fun _ => L, ⟨?_, by simp⟩, ⟨rfl, rfl⟩, by simp⟩
  have h3 := heap_setCell_same _ L 5 _ _ (.int .i64 0) (heap_setCell_same _ L 2 _ _ (.pointer (some ⟨L, 1, none⟩)) (heap_setCell_same w L 1 _ _ (.pointer (some ⟨L, 1, none⟩)) h))
  rw [h3, ptrN_root]
  rfl
theorem lazy_bare {w : World} {L Mp : Nat} {m : Int} (V : Nat → Nat) (h : Bare w L Mp m) :
    Calls Yba.prog 29 #[.pointer (some ⟨L, 1, none⟩)] w fun e w' => e = .returned (.tuple #[]) ∧ Ring w' L Mp m 0 V [] ∧ Chg (fun k => k = L) w w' := by
  have HI := hidden2 (init_ring V h)
  have CH := hidden2 (show Chg (fun k => k = L) w (((w.setCell ⟨L, 1, none⟩ (.pointer (some ⟨L, 1, none⟩))).setCell ⟨L, 2, none⟩ (.pointer (some ⟨L, 1, none⟩))).setCell ⟨L, 5, none⟩ (.int .i64 0)) from (((Chg.refl (fun k => k = L) w).setCell (p := ⟨L, 1, none⟩) (.inl rfl) _).setCell (p := ⟨L, 2, none⟩) (.inl rfl) _).setCell (p := ⟨L, 5, none⟩) (.inl rfl) _)
  have r1 : w.cell? ⟨L, 1, none⟩ = some (.pointer none) := by simp [World.cell?, show w.heap[L]? = _ from h]
  have r2 : w.cell? ⟨L, 2, none⟩ = some (.pointer none) := by simp [World.cell?, show w.heap[L]? = _ from h]
  have r5 : w.cell? ⟨L, 5, none⟩ = some (.int .i64 0) := by simp [World.cell?, show w.heap[L]? = _ from h]
  have f1 : w.frozen? ⟨L, 1, none⟩ = false := by simp [World.frozen?, show w.heap[L]? = _ from h]
  have f2 : w.frozen? ⟨L, 2, none⟩ = false := by simp [World.frozen?, show w.heap[L]? = _ from h]
  have f5 : w.frozen? ⟨L, 5, none⟩ = false := by simp [World.frozen?, show w.heap[L]? = _ from h]
  clear h
  go_enter Yba.func29, Yba.ntmps29
  go_wp2
  go_end0
  exact ⟨rfl, HI.out, CH.out⟩
theorem ptrN_some (L a : Nat) : ∃ ad, ptrN L a = .pointer (some ad) := by unfold ptrN; split <;> exact ⟨_, rfl⟩
theorem lazy_ring {w : World} {L Mp : Nat} {m len : Int} {V : Nat → Nat} {l : List Nat} (h : Ring w L Mp m len V l) :
    Calls Yba.prog 29 #[.pointer (some ⟨L, 1, none⟩)] w fun e w' => e = .returned (.tuple #[]) ∧ w' = w := by
  obtain ⟨nx, pv, hk, hs, hnd⟩ := h
  obtain ⟨_, r1, _, _, _, _⟩ := hk.rcells
  obtain ⟨ad, had⟩ := ptrN_some L (nx L)
  rw [had] at r1
  clear hk hs hnd had
  go_enter Yba.func29, Yba.ntmps29
  go_wp2
  go_end0
  exact ⟨rfl, rfl⟩

/-- 'insert' behind the root, of a node that lies ready at E. -/
theorem inserted {w w4 : World} {L Mp : Nat} {m len : Int} {V : Nat → Nat} {l : List Nat} {E v : Nat} {nx pv : Nat → Nat} (hk : Lk w4 L Mp m len V l (upd nx L E) (upd pv (nx L) E)) (hs : Seg nx pv L l L) (hnd : (L :: l).Nodup) (hE : E ∉ L :: l)
    (hb : w4.heap[E]? = some (.cells #[ptrN L (nx L), .pointer (some ⟨L, 1, none⟩), .pointer none, .iface 46 (.pointer (some ⟨v, 0, none⟩))] 38 (0, 0))) (n : Int) :
    Ring ((w4.setCell ⟨E, 2, none⟩ (.pointer (some ⟨L, 1, none⟩))).setCell ⟨L, 5, none⟩ (.int .i64 n)) L Mp m n (upd V E v) (E :: l) := by
  simp only [List.mem_cons, not_or] at hE
  obtain ⟨hEL, hEl⟩ := hE
  obtain ⟨hn, hs'⟩ := ring_insert (e := E) hs hnd (by simp [hEL, hEl])
  have hnE : nx L ≠ E := by
    rintro rfl
    rcases List.mem_append.1 hn with h | h
    · exact hEl h
    · simp at h; exact hEL h
  refine ⟨_, _, ⟨?_, ?_⟩, hs', ?_⟩
  · have hr : (w4.setCell ⟨E, 2, none⟩ (.pointer (some ⟨L, 1, none⟩))).heap[L]? = _ := (blk_setCell_other _ _ _ _ (by show L ≠ E; exact fun e => hEL e.symm)).trans hk.root
    have h2 := heap_setCell_same _ L 5 _ _ (.int .i64 n) hr
    rw [h2, upd_same, upd_same]
    have e9 : upd (upd pv E L) (nx L) E L = upd pv (nx L) E L := by
      unfold upd
      by_cases h : L = nx L
      · rw [if_pos h, if_pos h]
      · rw [if_neg h, if_neg h, if_neg (fun e => hEL e.symm)]
    rw [e9]
    rfl
  · intro x hx
    rcases List.mem_cons.1 hx with rfl | hxl
    · refine ⟨hEL, ?_⟩
      rw [blk_setCell_other _ _ _ _ (by show x ≠ L; exact hEL), heap_setCell_same _ x 2 _ _ _ hb, upd_other _ hEL, upd_same, upd_other _ (fun e => hnE e.symm), upd_same, upd_same, ptrN_root]
      rfl
    · have hxE : x ≠ E := by rintro rfl; exact hEl hxl
      obtain ⟨hxL, hxb⟩ := hk.node x hxl
      refine ⟨hxL, ?_⟩
      rw [blk_setCell_other _ _ _ _ (by show x ≠ L; exact hxL), blk_setCell_other _ _ _ _ (by show x ≠ E; exact hxE), hxb, upd_other _ hxL, upd_other _ hxL, upd_other _ hxE, upd_other V hxE]
      have e9 : upd (upd pv E L) (nx L) E x = upd pv (nx L) E x := by
        unfold upd
        by_cases h : x = nx L
        · rw [if_pos h, if_pos h]
        · rw [if_neg h, if_neg h, if_neg hxE]
      rw [e9]
  · rw [List.nodup_cons, List.nodup_cons] 
    exact ⟨by simp only [List.mem_cons, not_or]; exact ⟨fun e => hEL e.symm, (List.nodup_cons.1 hnd).1⟩, hEl, (List.nodup_cons.1 hnd).2⟩

set_option maxRecDepth 100000 in
set_option maxHeartbeats 1000000 in
theorem insert_any {w : World} {L Mp : Nat} {m len : Int} {V : Nat → Nat} {l : List Nat} {E v : Nat} (h : Ring w L Mp m len V l) (hE : E ∉ L :: l) (hb : w.heap[E]? = some (.cells #[.pointer none, .pointer none, .pointer none, .iface 46 (.pointer (some ⟨v, 0, none⟩))] 38 (0, 0))) (hl1 : 0 ≤ len) (hl2 : len ≤ 1000000) :
    Calls Yba.prog 33 #[.pointer (some ⟨L, 1, none⟩), .pointer (some ⟨E, 0, none⟩), .pointer (some ⟨L, 1, none⟩)] w fun e w' => e = .returned (.pointer (some ⟨E, 0, none⟩)) ∧ Ring w' L Mp m (len + 1) (upd V E v) (E :: l) ∧ Chg (fun k => k = L ∨ k = E ∨ k ∈ l) w w' := by
  obtain ⟨nx, pv, hk, hs, hnd⟩ := h
  have hE2 := hE
  simp only [List.mem_cons, not_or] at hE2
  obtain ⟨hEL, hEl⟩ := hE2
  have hn := seg_first_mem l hs
  have hnE : nx L ≠ E := by
    rintro rfl
    rcases List.mem_append.1 hn with h | h
    · exact hEl h
    · simp at h; exact hEL h
  have hnS : nx L = L ∨ nx L ∈ l := by
    rcases List.mem_append.1 hn with h | h
    · exact .inr h
    · simp at h; exact .inl h
  obtain ⟨_, r1, r2, r5, _, rf⟩ := hk.rcells
  have rf1 := rf 1
  have rf2 := rf 2
  have rf5 := rf 5
  have e0 : w.cell? ⟨E, 0, none⟩ = some (.pointer none) := by simp [World.cell?, hb]
  have e1 : w.cell? ⟨E, 1, none⟩ = some (.pointer none) := by simp [World.cell?, hb]
  have e2 : w.cell? ⟨E, 2, none⟩ = some (.pointer none) := by simp [World.cell?, hb]
  have ef0 : w.frozen? ⟨E, 0, none⟩ = false := by simp [World.frozen?, hb]
  have ef1 : w.frozen? ⟨E, 1, none⟩ = false := by simp [World.frozen?, hb]
  have ef2 : w.frozen? ⟨E, 2, none⟩ = false := by simp [World.frozen?, hb]
  have hk2 : Lk ((w.setCell ⟨E, 1, none⟩ (.pointer (some ⟨L, 1, none⟩))).setCell ⟨E, 0, none⟩ (ptrN L (nx L))) L Mp m len V l nx pv := hk.keep (fun k hkk => by
    have hkE : k ≠ E := by rintro rfl; rcases hkk with h | h; exact hEL h; exact hEl h
    rw [blk_setCell_other _ _ _ _ (by show k ≠ E; exact hkE), blk_setCell_other _ _ _ _ (by show k ≠ E; exact hkE)])
  have hb2 : ((w.setCell ⟨E, 1, none⟩ (.pointer (some ⟨L, 1, none⟩))).setCell ⟨E, 0, none⟩ (ptrN L (nx L))).heap[E]? = some (.cells #[ptrN L (nx L), .pointer (some ⟨L, 1, none⟩), .pointer none, .iface 46 (.pointer (some ⟨v, 0, none⟩))] 38 (0, 0)) := heap_setCell_same _ E 0 _ _ _ (heap_setCell_same _ E 1 _ _ _ hb)
  have FIN := fun (w4 : World) (h4 : Lk w4 L Mp m len V l (upd nx L E) (upd pv (nx L) E)) (hb4 : w4.heap[E]? = some (.cells #[ptrN L (nx L), .pointer (some ⟨L, 1, none⟩), .pointer none, .iface 46 (.pointer (some ⟨v, 0, none⟩))] 38 (0, 0))) => inserted (w := w4) (v := v) h4 hs hnd hE hb4 (len + 1)
  have FH := hidden2 FIN
  have HK2 := hidden2 hk2
  have HB2 := hidden2 hb2
  have HK := hidden2 hk
  generalize nx L = f at *
  clear hk hs hnd hn FIN hk2 hb2 rf hb
  by_cases hfL : f = L
  · rw [hfL, ptrN_root] at r1
    have F2 : Hid (Ring ((((((w.setCell ⟨E, 1, none⟩ (.pointer (some ⟨L, 1, none⟩))).setCell ⟨E, 0, none⟩ (.pointer (some ⟨L, 1, none⟩))).setCell ⟨L, 1, none⟩ (.pointer (some ⟨E, 0, none⟩))).setCell ⟨L, 2, none⟩ (.pointer (some ⟨E, 0, none⟩))).setCell ⟨E, 2, none⟩ (.pointer (some ⟨L, 1, none⟩))).setCell ⟨L, 5, none⟩ (.int .i64 (len + 1))) L Mp m (len + 1) (upd V E v) (E :: l)) := by
      have h4 := (HK2.out.next_root E).prev_root E
      have hb4 := HB2.out
      rw [hfL, ptrN_root] at h4
      rw [ptrN_node hEL] at h4
      rw [hfL, ptrN_root] at hb4
      have h5 := FH.out
      rw [hfL, ptrN_root] at h5
      refine h5 _ h4 ?_
      rw [blk_setCell_other _ _ _ _ (by show E ≠ L; exact hEL), blk_setCell_other _ _ _ _ (by show E ≠ L; exact hEL)]
      exact hb4
    have CH := hidden2 (show Chg (fun k => k = L ∨ k = E ∨ k ∈ l) w ((((((w.setCell ⟨E, 1, none⟩ (.pointer (some ⟨L, 1, none⟩))).setCell ⟨E, 0, none⟩ (.pointer (some ⟨L, 1, none⟩))).setCell ⟨L, 1, none⟩ (.pointer (some ⟨E, 0, none⟩))).setCell ⟨L, 2, none⟩ (.pointer (some ⟨E, 0, none⟩))).setCell ⟨E, 2, none⟩ (.pointer (some ⟨L, 1, none⟩))).setCell ⟨L, 5, none⟩ (.int .i64 (len + 1))) from ((((((Chg.refl (fun k => k = L ∨ k = E ∨ k ∈ l) w).setCell (p := ⟨E, 1, none⟩) (.inl (.inr (.inl rfl))) _).setCell (p := ⟨E, 0, none⟩) (.inl (.inr (.inl rfl))) _).setCell (p := ⟨L, 1, none⟩) (.inl (.inl rfl)) _).setCell (p := ⟨L, 2, none⟩) (.inl (.inl rfl)) _).setCell (p := ⟨E, 2, none⟩) (.inl (.inr (.inl rfl))) _).setCell (p := ⟨L, 5, none⟩) (.inl (.inl rfl)) _)
    generalize ptrN L (pv L) = xr2 at *
    clear HK HK2 HB2 FH hnS hnE hfL hE
    go_enter Yba.func33, Yba.ntmps33
    go_wp2
    go_ret
    exact ⟨rfl, F2.out, CH.out⟩
  · have hfS := hnS.resolve_left hfL
    obtain ⟨_, f1, _, _, ff⟩ := HK.out.cells hfS
    have ff1 := ff 1
    rw [ptrN_node hfL] at r1
    have F2 : Hid (Ring ((((((w.setCell ⟨E, 1, none⟩ (.pointer (some ⟨L, 1, none⟩))).setCell ⟨E, 0, none⟩ (.pointer (some ⟨f, 0, none⟩))).setCell ⟨L, 1, none⟩ (.pointer (some ⟨E, 0, none⟩))).setCell ⟨f, 1, none⟩ (.pointer (some ⟨E, 0, none⟩))).setCell ⟨E, 2, none⟩ (.pointer (some ⟨L, 1, none⟩))).setCell ⟨L, 5, none⟩ (.int .i64 (len + 1))) L Mp m (len + 1) (upd V E v) (E :: l)) := by
      have h4 := (HK2.out.next_root E).prev_node hfS E
      have hb4 := HB2.out
      rw [ptrN_node hfL, ptrN_node hEL] at h4
      rw [ptrN_node hfL] at hb4
      have h5 := FH.out
      rw [ptrN_node hfL] at h5
      refine h5 _ h4 ?_
      rw [blk_setCell_other _ _ _ _ (by show E ≠ f; exact fun e => hnE e.symm), blk_setCell_other _ _ _ _ (by show E ≠ L; exact hEL)]
      exact hb4
    have CH := hidden2 (show Chg (fun k => k = L ∨ k = E ∨ k ∈ l) w ((((((w.setCell ⟨E, 1, none⟩ (.pointer (some ⟨L, 1, none⟩))).setCell ⟨E, 0, none⟩ (.pointer (some ⟨f, 0, none⟩))).setCell ⟨L, 1, none⟩ (.pointer (some ⟨E, 0, none⟩))).setCell ⟨f, 1, none⟩ (.pointer (some ⟨E, 0, none⟩))).setCell ⟨E, 2, none⟩ (.pointer (some ⟨L, 1, none⟩))).setCell ⟨L, 5, none⟩ (.int .i64 (len + 1))) from ((((((Chg.refl (fun k => k = L ∨ k = E ∨ k ∈ l) w).setCell (p := ⟨E, 1, none⟩) (.inl (.inr (.inl rfl))) _).setCell (p := ⟨E, 0, none⟩) (.inl (.inr (.inl rfl))) _).setCell (p := ⟨L, 1, none⟩) (.inl (.inl rfl)) _).setCell (p := ⟨f, 1, none⟩) (.inl (.inr (.inr hfS))) _).setCell (p := ⟨E, 2, none⟩) (.inl (.inr (.inl rfl))) _).setCell (p := ⟨L, 5, none⟩) (.inl (.inl rfl)) _)
    generalize ptrN L (pv L) = xr2 at *
    generalize ptrN L (pv f) = xf1 at *
    clear HK HK2 HB2 FH hnS hE ff
    go_enter Yba.func33, Yba.ntmps33
    go_wp2
    go_ret
    exact ⟨rfl, F2.out, CH.out⟩
end Go.Proofs.Ybulkcjdg
