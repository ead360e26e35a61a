import Derived.Test.YbulkcjdgList
namespace Go.Proofs.Ybulkcjdg
open Go.RowKit
open Go.Deep (blk_alloc_lt blk_alloc_new nblk_alloc blk_setCell_other nblk_setCell)
set_option linter.unusedVariables false
set_option linter.unusedSimpArgs false

theorem hidden2 {p : Prop} (h : p) : Hid p := h
/-- The list holds the nodes l, in this order. -/
def Ring (w : World) (L Mp : Nat) (m len : Int) (V : Nat → Nat) (l : List Nat) : Prop := ∃ nx pv, Lk w L Mp m len V l nx pv ∧ Seg nx pv L l L ∧ (L :: l).Nodup
theorem Lk.mem {w : World} {L Mp : Nat} {m len : Int} {V : Nat → Nat} {S S' : List Nat} {nx pv : Nat → Nat} (h : Lk w L Mp m len V S nx pv) (hs : ∀ x, x ∈ S' → x ∈ S) : Lk w L Mp m len V S' nx pv := ⟨h.root, fun e he => h.node e (hs e he)⟩
theorem Ring.keep {w w' : World} {L Mp : Nat} {m len : Int} {V : Nat → Nat} {l : List Nat} (h : Ring w L Mp m len V l) (hk : ∀ k, k = L ∨ k ∈ l → w'.heap[k]? = w.heap[k]?) : Ring w' L Mp m len V l := by
  obtain ⟨nx, pv, h1, h2, h3⟩ := h
  exact ⟨nx, pv, h1.keep hk, h2, h3⟩

set_option maxRecDepth 100000 in
set_option maxHeartbeats 1000000 in
theorem mtf_any {w : World} {L Mp : Nat} {m len : Int} {V : Nat → Nat} {l1 l2 : List Nat} {E : Nat} (h : Ring w L Mp m len V (l1 ++ E :: l2)) :
    Calls Yba.prog 21 #[.pointer (some ⟨L, 1, none⟩), .pointer (some ⟨E, 0, none⟩)] w fun e w' => e = .returned (.tuple #[]) ∧ Ring w' L Mp m len V (E :: (l1 ++ l2)) ∧ Chg (fun k => k = L ∨ k ∈ l1 ++ E :: l2) w w' := by
  obtain ⟨nx, pv, hk, hs, hnd⟩ := h
  obtain ⟨j, hj, hjs⟩ := info38
  obtain ⟨j4, hj4, _⟩ := info40
  have hE : E ∈ l1 ++ E :: l2 := by simp
  have hl := fun (W : World) => run_neq_ptr_one (P := Yba.prog) W ⟨L, 1, none⟩ Yba.underlying36 hj4
  obtain ⟨_, _, e2, _, _⟩ := hk.cells hE
  obtain ⟨_, r1, _, _, _, _⟩ := hk.rcells
  by_cases h0 : l1 = []
  · subst h0
    have hf : nx L = E := hs.1
    have hEL := (hk.node E hE).1
    rw [hf, ptrN_node hEL] at r1
    have he := fun (W : World) => run_eql_ptr_one (P := Yba.prog) W ⟨E, 0, none⟩ Yba.underlying35 hj
    have HR : Hid (Ring w L Mp m len V (E :: l2)) := ⟨nx, pv, hk, hs, hnd⟩
    clear hk hs hnd hf
    go_enter Yba.func21, Yba.ntmps21
    go_wp2
    exact bodyPost_ret (v := .tuple #[]) (by simp [results, Yba.results21, go_sem]) rfl ⟨rfl, HR.out, Chg.refl _ _⟩
  · obtain ⟨hp, hn, hf, hs'⟩ := ring_move hs hnd h0
    have hpS : pv E ∈ l1 ++ E :: l2 := List.mem_append_left _ hp
    have hfS : nx L ∈ l1 ++ E :: l2 := List.mem_append_left _ hf
    have hfL := (hk.node _ hfS).1
    have hd := (List.nodup_append.1 (List.nodup_cons.1 hnd).2).2.2
    have hd2 := (List.nodup_append.1 (List.nodup_cons.1 hnd).2).2.1
    have hL := (List.nodup_cons.1 hnd).1
    have hpE : pv E ≠ E := hd _ hp _ (by simp)
    have hfE : nx L ≠ E := hd _ hf _ (by simp)
    have hnS : nx E = L ∨ nx E ∈ l1 ++ E :: l2 := by
      rcases List.mem_append.1 hn with h | h
      · exact .inr (by simp [h])
      · simp at h; exact .inl h
    have hnE : nx E ≠ E := by
      intro h9
      rcases List.mem_append.1 hn with h | h
      · rw [h9] at h; exact (List.nodup_cons.1 hd2).1 h
      · simp at h; exact hL (by rw [← h, h9]; simp)
    have hnf : nx E ≠ nx L := by
      intro h9
      rcases List.mem_append.1 hn with h | h
      · exact hd _ hf _ (List.mem_cons_of_mem _ h) h9.symm
      · simp at h; exact hfL (by rw [← h9, h])
    have HM := hidden2 <| move_any hk E hE hpS hpE hfS hfE hnS hnE hnf
    rw [ptrN_node hfL] at r1
    have he := run_eql_ptr_two (P := Yba.prog) w (a := ⟨nx L, 0, none⟩) (b := ⟨E, 0, none⟩) Yba.underlying35 hj hjs (by intro e; injection e with e1; exact hfE e1) (hk.node _ hfS).2 (hk.node E hE).2
    have hnd' : (L :: (E :: (l1 ++ l2))).Nodup := by
      have hperm : (L :: (l1 ++ E :: l2)).Perm (L :: (E :: (l1 ++ l2))) := List.Perm.cons _ List.perm_middle
      exact hperm.nodup_iff.1 hnd
    have FIN : ∀ w', Lk w' L Mp m len V (l1 ++ E :: l2) (upd (upd (upd nx (pv E) (nx E)) E (nx L)) L E) (upd (upd (upd pv (nx E) (pv E)) E L) (nx L) E) → Ring w' L Mp m len V (E :: (l1 ++ l2)) := fun w' hw => ⟨_, _, hw.mem (fun x hx => by simp at hx ⊢; rcases hx with h | h | h <;> simp [h]), hs', hnd'⟩
    have FH := hidden2 FIN
    generalize nx L = f at *
    clear hk hs hnd hs' hp hn hf hpS hfS hfL hd hd2 hL hpE hfE hnS hnE hnf hnd' FIN
    go_enter Yba.func21, Yba.ntmps21
    go_wp2_with (go_at_call 27; refine HM.out.mono ?_; rintro e w9 ⟨rfl, hm1, hm2⟩)
    go_end0
    exact ⟨rfl, FH.out _ hm1, hm2⟩
/-- 'remove': the node E is passed over; its Value stays. -/
theorem removed {w w2 w' : World} {L Mp : Nat} {m len : Int} {V : Nat → Nat} {l1 l2 : List Nat} {E : Nat} {nx pv : Nat → Nat} (h2 : Lk w2 L Mp m len V (l1 ++ E :: l2) (upd nx (pv E) (nx E)) (upd pv (nx E) (pv E))) (hs : Seg nx pv L (l1 ++ E :: l2) L) (hnd : (L :: (l1 ++ E :: l2)).Nodup)
    (n : Int) (a0 a1 a2 : Value) : Ring ((((w2.setCell ⟨E, 0, none⟩ a0).setCell ⟨E, 1, none⟩ a1).setCell ⟨E, 2, none⟩ a2).setCell ⟨L, 5, none⟩ (.int .i64 n)) L Mp m n V (l1 ++ l2) ∧ ((((w2.setCell ⟨E, 0, none⟩ a0).setCell ⟨E, 1, none⟩ a1).setCell ⟨E, 2, none⟩ a2).setCell ⟨L, 5, none⟩ (.int .i64 n)).heap[E]? = some (.cells #[a0, a1, a2, .iface 46 (.pointer (some ⟨V E, 0, none⟩))] 38 (0, 0)) := by
  have hEL := (h2.node E (by simp)).1
  have hEb := (h2.node E (by simp)).2
  have hperm : (L :: (l1 ++ E :: l2)).Perm (E :: (L :: (l1 ++ l2))) := (List.Perm.cons _ List.perm_middle).trans (List.Perm.swap _ _ _)
  have hnd' := hperm.nodup_iff.1 hnd
  have hE := (List.nodup_cons.1 hnd').1
  refine ⟨⟨_, _, Lk.len_root ((h2.mem (S' := l1 ++ l2) (fun x hx => by simp at hx ⊢; rcases hx with h | h <;> simp [h])).keep ?_) n, (ring_remove hs hnd).2.2, (List.nodup_cons.1 hnd').2⟩, ?_⟩
  · intro k hk
    have hkE : k ≠ E := by
      rintro rfl
      rcases hk with rfl | hk
      · exact hEL rfl
      · exact hE (List.mem_cons_of_mem _ hk)
    rw [blk_setCell_other _ _ _ _ (by show k ≠ E; exact hkE), blk_setCell_other _ _ _ _ (by show k ≠ E; exact hkE), blk_setCell_other _ _ _ _ (by show k ≠ E; exact hkE)]
  · rw [blk_setCell_other _ _ _ _ (by show E ≠ L; exact hEL)]
    exact heap_setCell_same _ E 2 _ _ _ (heap_setCell_same _ E 1 _ _ _ (heap_setCell_same _ E 0 _ _ _ hEb))
theorem Ring.drew {w : World} {L Mp : Nat} {m len : Int} {V : Nat → Nat} {l : List Nat} (h : Ring w L Mp m len V l) : Ring w.drew L Mp m len V l := h.keep fun _ _ => rfl
theorem heap_drew2 (w : World) (k : Nat) : w.drew.drew.heap[k]? = w.heap[k]? := rfl

set_option maxRecDepth 100000 in
set_option maxHeartbeats 2000000 in
theorem remove_any {w : World} {L Mp : Nat} {m len : Int} {V : Nat → Nat} {l1 l2 : List Nat} {E : Nat} (h : Ring w L Mp m len V (l1 ++ E :: l2)) (hl1 : 1 ≤ len) (hl2 : len ≤ 1000000) :
    Calls Yba.prog 28 #[.pointer (some ⟨L, 1, none⟩), .pointer (some ⟨E, 0, none⟩)] w fun e w' => e = .returned (.tuple #[]) ∧ (Ring w' L Mp m (len - 1) V (l1 ++ l2) ∧ w'.heap[E]? = some (.cells #[.pointer none, .pointer none, .pointer none, .iface 46 (.pointer (some ⟨V E, 0, none⟩))] 38 (0, 0))) ∧ Chg (fun k => k = L ∨ k ∈ l1 ++ E :: l2) w w' := by
  obtain ⟨nx, pv, hk, hs, hnd⟩ := h
  have hE : E ∈ l1 ++ E :: l2 := by simp
  have hEL := (hk.node E hE).1
  obtain ⟨hp, hn, _⟩ := ring_remove hs hnd
  have hd := (List.nodup_append.1 (List.nodup_cons.1 hnd).2).2.2
  have hd2 := (List.nodup_append.1 (List.nodup_cons.1 hnd).2).2.1
  have hL := (List.nodup_cons.1 hnd).1
  have hpE : pv E ≠ E := by
    intro h9; rw [h9] at hp
    rcases List.mem_cons.1 hp with h | h
    · exact hEL h
    · exact hd _ h _ (by simp) rfl
  have hnE : nx E ≠ E := by
    intro h9
    rcases List.mem_append.1 hn with h | h
    · rw [h9] at h; exact (List.nodup_cons.1 hd2).1 h
    · simp at h; exact hL (by rw [← h, h9]; simp)
  have hpS : pv E = L ∨ pv E ∈ l1 ++ E :: l2 := by
    rcases List.mem_cons.1 hp with h | h
    · exact .inl h
    · exact .inr (List.mem_append_left _ h)
  have hnS : nx E = L ∨ nx E ∈ l1 ++ E :: l2 := by
    rcases List.mem_append.1 hn with h | h
    · exact .inr (by simp [h])
    · simp at h; exact .inl h
  have hpn : pv E = nx E → pv E = L := by
    intro h9
    rcases List.mem_cons.1 hp with h | h
    · exact h
    · rcases List.mem_append.1 hn with h' | h'
      · exact absurd h9 (hd _ h _ (List.mem_cons_of_mem _ h'))
      · simp at h'; rw [h9, h']
  obtain ⟨e0, e1, e2, _, ef⟩ := hk.cells hE
  obtain ⟨_, r1, r2, r5, _, rf⟩ := hk.rcells
  have FIN := fun (w2 : World) (h2 : Lk w2 L Mp m len V (l1 ++ E :: l2) (upd nx (pv E) (nx E)) (upd pv (nx E) (pv E))) => removed (w := w2) (w' := w2) h2 hs hnd (len - 1) (.pointer none) (.pointer none) (.pointer none)
  have FH := hidden2 FIN
  have HK := hidden2 hk
  generalize pv E = p at *
  generalize nx E = n at *
  have ef0 := ef 0
  have ef1 := ef 1
  have ef2 := ef 2
  have rf1 := rf 1
  have rf2 := rf 2
  have rf5 := rf 5
  clear FIN hk hs hnd hp hn hd hd2 hL ef rf
  by_cases hpL : p = L
  · by_cases hnL : n = L
    · have h6 := (HK.out.next_root n).prev_root p
      rw [hpL] at e1
      rw [ptrN_root] at e1
      rw [hnL] at e0
      rw [ptrN_root] at e0
      have en : ptrN L n = .pointer (some ⟨L, 1, none⟩) := by rw [hnL, ptrN_root]
      have ep : ptrN L p = .pointer (some ⟨L, 1, none⟩) := by rw [hpL, ptrN_root]
      rw [en, ep] at h6
      have hupd : upd nx p n = upd nx L n := by rw [hpL]
      have h7 : Lk ((w.setCell ⟨L, 1, none⟩ (.pointer (some ⟨L, 1, none⟩))).setCell ⟨L, 2, none⟩ (.pointer (some ⟨L, 1, none⟩))) L Mp m len V (l1 ++ E :: l2) (upd nx p n) (upd pv n p) := by
        rw [hpL, hnL] at h6 ⊢; exact h6
      have F2 := hidden2 (FH.out _ h7)
      have CH := hidden2 (show Chg (fun k => k = L ∨ k ∈ l1 ++ E :: l2) w ((((((w.setCell ⟨L, 1, none⟩ (.pointer (some ⟨L, 1, none⟩))).setCell ⟨L, 2, none⟩ (.pointer (some ⟨L, 1, none⟩))).setCell ⟨E, 0, none⟩ (.pointer none)).setCell ⟨E, 1, none⟩ (.pointer none)).setCell ⟨E, 2, none⟩ (.pointer none)).setCell ⟨L, 5, none⟩ (.int .i64 (len - 1))) from ((((((Chg.refl (fun k => k = L ∨ k ∈ l1 ++ E :: l2) w).setCell (p := ⟨L, 1, none⟩) (.inl (.inl rfl)) _).setCell (p := ⟨L, 2, none⟩) (.inl (.inl rfl)) _).setCell (p := ⟨E, 0, none⟩) (.inl (.inr hE)) _).setCell (p := ⟨E, 1, none⟩) (.inl (.inr hE)) _).setCell (p := ⟨E, 2, none⟩) (.inl (.inr hE)) _).setCell (p := ⟨L, 5, none⟩) (.inl (.inl rfl)) _)
      generalize ptrN L (nx L) = xr1 at *
      generalize ptrN L (pv L) = xr2 at *
      clear h6 h7 FH HK en ep hpS hnS hpn hupd hpL hnL
      go_enter Yba.func28, Yba.ntmps28
      go_wp2
      go_region
      go_wp2
      go_region
      go_wp2
      go_end0
      exact ⟨rfl, ⟨F2.out.1.drew.drew, (heap_drew2 _ _).trans F2.out.2⟩, CH.out.drew.drew⟩
    · have hnS2 := hnS.resolve_left hnL
      obtain ⟨_, n1, _, _, nf⟩ := HK.out.cells hnS2
      have nf1 := nf 1
      have h6 := (HK.out.next_root n).prev_node hnS2 p
      rw [hpL] at e1
      rw [ptrN_root] at e1
      rw [ptrN_node hnL] at e0
      have en : ptrN L n = .pointer (some ⟨n, 0, none⟩) := ptrN_node hnL
      have ep : ptrN L p = .pointer (some ⟨L, 1, none⟩) := by rw [hpL, ptrN_root]
      rw [en, ep] at h6
      have hupd : upd nx p n = upd nx L n := by rw [hpL]
      have h7 : Lk ((w.setCell ⟨L, 1, none⟩ (.pointer (some ⟨n, 0, none⟩))).setCell ⟨n, 1, none⟩ (.pointer (some ⟨L, 1, none⟩))) L Mp m len V (l1 ++ E :: l2) (upd nx p n) (upd pv n p) := by
        rw [hpL] at h6 ⊢; exact h6
      have F2 := hidden2 (FH.out _ h7)
      have CH := hidden2 (show Chg (fun k => k = L ∨ k ∈ l1 ++ E :: l2) w ((((((w.setCell ⟨L, 1, none⟩ (.pointer (some ⟨n, 0, none⟩))).setCell ⟨n, 1, none⟩ (.pointer (some ⟨L, 1, none⟩))).setCell ⟨E, 0, none⟩ (.pointer none)).setCell ⟨E, 1, none⟩ (.pointer none)).setCell ⟨E, 2, none⟩ (.pointer none)).setCell ⟨L, 5, none⟩ (.int .i64 (len - 1))) from ((((((Chg.refl (fun k => k = L ∨ k ∈ l1 ++ E :: l2) w).setCell (p := ⟨L, 1, none⟩) (.inl (.inl rfl)) _).setCell (p := ⟨n, 1, none⟩) (.inl (.inr hnS2)) _).setCell (p := ⟨E, 0, none⟩) (.inl (.inr hE)) _).setCell (p := ⟨E, 1, none⟩) (.inl (.inr hE)) _).setCell (p := ⟨E, 2, none⟩) (.inl (.inr hE)) _).setCell (p := ⟨L, 5, none⟩) (.inl (.inl rfl)) _)
      generalize ptrN L (pv n) = xn1 at *
      generalize ptrN L (nx L) = xr1 at *
      generalize ptrN L (pv L) = xr2 at *
      clear h6 h7 FH HK en ep hpS hnS hpn hupd nf hpL
      go_enter Yba.func28, Yba.ntmps28
      go_wp2
      go_region
      go_wp2
      go_region
      go_wp2
      go_end0
      exact ⟨rfl, ⟨F2.out.1.drew.drew, (heap_drew2 _ _).trans F2.out.2⟩, CH.out.drew.drew⟩
  · by_cases hnL : n = L
    · have hpS2 := hpS.resolve_left hpL
      obtain ⟨p0, _, _, _, pf⟩ := HK.out.cells hpS2
      have pf0 := pf 0
      have h6 := (HK.out.next_node hpS2 n).prev_root p
      rw [ptrN_node hpL] at e1
      rw [hnL] at e0
      rw [ptrN_root] at e0
      have en : ptrN L n = .pointer (some ⟨L, 1, none⟩) := by rw [hnL, ptrN_root]
      have ep : ptrN L p = .pointer (some ⟨p, 0, none⟩) := ptrN_node hpL
      rw [en, ep] at h6
      have h7 : Lk ((w.setCell ⟨p, 0, none⟩ (.pointer (some ⟨L, 1, none⟩))).setCell ⟨L, 2, none⟩ (.pointer (some ⟨p, 0, none⟩))) L Mp m len V (l1 ++ E :: l2) (upd nx p n) (upd pv n p) := by
        rw [hnL] at h6 ⊢; exact h6
      have F2 := hidden2 (FH.out _ h7)
      have CH := hidden2 (show Chg (fun k => k = L ∨ k ∈ l1 ++ E :: l2) w ((((((w.setCell ⟨p, 0, none⟩ (.pointer (some ⟨L, 1, none⟩))).setCell ⟨L, 2, none⟩ (.pointer (some ⟨p, 0, none⟩))).setCell ⟨E, 0, none⟩ (.pointer none)).setCell ⟨E, 1, none⟩ (.pointer none)).setCell ⟨E, 2, none⟩ (.pointer none)).setCell ⟨L, 5, none⟩ (.int .i64 (len - 1))) from ((((((Chg.refl (fun k => k = L ∨ k ∈ l1 ++ E :: l2) w).setCell (p := ⟨p, 0, none⟩) (.inl (.inr hpS2)) _).setCell (p := ⟨L, 2, none⟩) (.inl (.inl rfl)) _).setCell (p := ⟨E, 0, none⟩) (.inl (.inr hE)) _).setCell (p := ⟨E, 1, none⟩) (.inl (.inr hE)) _).setCell (p := ⟨E, 2, none⟩) (.inl (.inr hE)) _).setCell (p := ⟨L, 5, none⟩) (.inl (.inl rfl)) _)
      generalize ptrN L (nx p) = xp0 at *
      generalize ptrN L (nx L) = xr1 at *
      generalize ptrN L (pv L) = xr2 at *
      clear h6 h7 FH HK en ep hpS hnS hpn pf hnL
      go_enter Yba.func28, Yba.ntmps28
      go_wp2
      go_region
      go_wp2
      go_region
      go_wp2
      go_end0
      exact ⟨rfl, ⟨F2.out.1.drew.drew, (heap_drew2 _ _).trans F2.out.2⟩, CH.out.drew.drew⟩
    · have hpS2 := hpS.resolve_left hpL
      obtain ⟨p0, _, _, _, pf⟩ := HK.out.cells hpS2
      have pf0 := pf 0
      have hnS2 := hnS.resolve_left hnL
      obtain ⟨_, n1, _, _, nf⟩ := HK.out.cells hnS2
      have nf1 := nf 1
      have hpn2 : p ≠ n := fun h9 => hpL (hpn h9)
      have h6 := (HK.out.next_node hpS2 n).prev_node hnS2 p
      rw [ptrN_node hpL] at e1
      rw [ptrN_node hnL] at e0
      have en : ptrN L n = .pointer (some ⟨n, 0, none⟩) := ptrN_node hnL
      have ep : ptrN L p = .pointer (some ⟨p, 0, none⟩) := ptrN_node hpL
      rw [en, ep] at h6
      have h7 : Lk ((w.setCell ⟨p, 0, none⟩ (.pointer (some ⟨n, 0, none⟩))).setCell ⟨n, 1, none⟩ (.pointer (some ⟨p, 0, none⟩))) L Mp m len V (l1 ++ E :: l2) (upd nx p n) (upd pv n p) := by
        exact h6
      have F2 := hidden2 (FH.out _ h7)
      have CH := hidden2 (show Chg (fun k => k = L ∨ k ∈ l1 ++ E :: l2) w ((((((w.setCell ⟨p, 0, none⟩ (.pointer (some ⟨n, 0, none⟩))).setCell ⟨n, 1, none⟩ (.pointer (some ⟨p, 0, none⟩))).setCell ⟨E, 0, none⟩ (.pointer none)).setCell ⟨E, 1, none⟩ (.pointer none)).setCell ⟨E, 2, none⟩ (.pointer none)).setCell ⟨L, 5, none⟩ (.int .i64 (len - 1))) from ((((((Chg.refl (fun k => k = L ∨ k ∈ l1 ++ E :: l2) w).setCell (p := ⟨p, 0, none⟩) (.inl (.inr hpS2)) _).setCell (p := ⟨n, 1, none⟩) (.inl (.inr hnS2)) _).setCell (p := ⟨E, 0, none⟩) (.inl (.inr hE)) _).setCell (p := ⟨E, 1, none⟩) (.inl (.inr hE)) _).setCell (p := ⟨E, 2, none⟩) (.inl (.inr hE)) _).setCell (p := ⟨L, 5, none⟩) (.inl (.inl rfl)) _)
      generalize ptrN L (nx p) = xp0 at *
      generalize ptrN L (pv n) = xn1 at *
      generalize ptrN L (nx L) = xr1 at *
      generalize ptrN L (pv L) = xr2 at *
      clear h6 h7 FH HK en ep hpS hnS hpn pf nf
      go_enter Yba.func28, Yba.ntmps28
      go_wp2
      go_region
      go_wp2
      go_region
      go_wp2
      go_end0
      exact ⟨rfl, ⟨F2.out.1.drew.drew, (heap_drew2 _ _).trans F2.out.2⟩, CH.out.drew.drew⟩
end Go.Proofs.Ybulkcjdg
