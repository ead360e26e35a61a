import Derived.Test.YbulkcjdgList3
namespace Go.Proofs.Ybulkcjdg
open Go.RowKit
open Go.Deep (blk_alloc_lt blk_alloc_new nblk_alloc blk_setCell_other nblk_setCell)
set_option linter.unusedVariables false
set_option linter.unusedSimpArgs false

theorem Ring.lt {w : World} {L Mp : Nat} {m len : Int} {V : Nat → Nat} {l : List Nat} (h : Ring w L Mp m len V l) : ∀ k, k ∈ L :: l → k < w.heap.size := by
  obtain ⟨nx, pv, hk, hs, hnd⟩ := h
  intro k hk'
  rcases List.mem_cons.1 hk' with rfl | h
  · have := hk.root
    rcases Nat.lt_or_ge k w.heap.size with h | h
    · exact h
    · rw [Array.getElem?_eq_none h] at this; cases this
  · have := (hk.node k h).2
    rcases Nat.lt_or_ge k w.heap.size with h | h
    · exact h
    · rw [Array.getElem?_eq_none h] at this; cases this

set_option maxRecDepth 100000 in
set_option maxHeartbeats 1000000 in
theorem insertValue_any {w : World} {L Mp : Nat} {m len : Int} {V : Nat → Nat} {l : List Nat} {v : Nat} (h : Ring w L Mp m len V l) (hl1 : 0 ≤ len) (hl2 : len ≤ 1000000) :
    Calls Yba.prog 30 #[.pointer (some ⟨L, 1, none⟩), .iface 46 (.pointer (some ⟨v, 0, none⟩)), .pointer (some ⟨L, 1, none⟩)] w fun e w' => e = .returned (.pointer (some ⟨w.heap.size, 0, none⟩)) ∧ Ring w' L Mp m (len + 1) (upd V w.heap.size v) (w.heap.size :: l) ∧ Chg (fun k => k = L ∨ k ∈ l) w w' := by
  have hlt := h.lt
  have hE : w.heap.size ∉ L :: l := fun hm => by have := hlt _ hm; omega
  have h1 : Ring (w.alloc (.cells #[.pointer none, .pointer none, .pointer none, .iface 46 (.pointer (some ⟨v, 0, none⟩))] 38)) L Mp m len V l := h.keep fun k hk => blk_alloc_lt _ _ _ (hlt k (by simpa using hk))
  have HI := hidden2 (insert_any (E := w.heap.size) (v := v) h1 hE (by rw [blk_alloc_new]) hl1 hl2)
  have hc : Hid (∀ w', Chg (fun k => k = L ∨ k = w.heap.size ∨ k ∈ l) (w.alloc (.cells #[.pointer none, .pointer none, .pointer none, .iface 46 (.pointer (some ⟨v, 0, none⟩))] 38)) w' → Chg (fun k => k = L ∨ k ∈ l) w w') := fun w' hw => ((Chg.refl _ w).alloc _).trans hw (fun b hb h => by rcases h with h | h | h; exact .inl h; omega; exact .inr h)
  clear h h1 hlt hE
  go_enter Yba.func30, Yba.ntmps30
  go_wp2_with (go_at_call 33; refine HI.out.mono ?_; rintro e w9 ⟨rfl, hr9, hc9⟩)
  go_ret
  exact ⟨rfl, hr9, hc.out _ hc9⟩

set_option maxRecDepth 100000 in
set_option maxHeartbeats 1000000 in
theorem push_ring {w : World} {L Mp : Nat} {m len : Int} {V : Nat → Nat} {l : List Nat} {v : Nat} (h : Ring w L Mp m len V l) (hl1 : 0 ≤ len) (hl2 : len ≤ 1000000) :
    Calls Yba.prog 24 #[.pointer (some ⟨L, 1, none⟩), .iface 46 (.pointer (some ⟨v, 0, none⟩))] w fun e w' => e = .returned (.pointer (some ⟨w.heap.size, 0, none⟩)) ∧ Ring w' L Mp m (len + 1) (upd V w.heap.size v) (w.heap.size :: l) ∧ Chg (fun k => k = L ∨ k ∈ l) w w' := by
  have HL := hidden2 (lazy_ring h)
  have HI := hidden2 (insertValue_any (v := v) h hl1 hl2)
  clear h
  go_enter Yba.func24, Yba.ntmps24
  go_wp2_with (first | (go_at_call 29; refine HL.out.mono ?_; rintro e w9 ⟨rfl, hw9⟩; have hw8 := hw9.symm; subst hw8) | (go_at_call 30; refine HI.out.mono ?_; rintro e w9 ⟨rfl, hr9, hc9⟩))
  go_ret
  exact ⟨rfl, hr9, hc9⟩

set_option maxRecDepth 100000 in
set_option maxHeartbeats 1000000 in
theorem push_bare {w : World} {L Mp : Nat} {m : Int} (V : Nat → Nat) {v : Nat} (h : Bare w L Mp m) (hsz : ∀ w', Chg (fun k => k = L) w w' → True) :
    Calls Yba.prog 24 #[.pointer (some ⟨L, 1, none⟩), .iface 46 (.pointer (some ⟨v, 0, none⟩))] w fun e w' => ∃ E, w.heap.size ≤ E ∧ e = .returned (.pointer (some ⟨E, 0, none⟩)) ∧ Ring w' L Mp m 1 (upd V E v) [E] ∧ Chg (fun k => k = L) w w' := by
  have HL := hidden2 (lazy_bare V h)
  clear h hsz
  go_enter Yba.func24, Yba.ntmps24
  go_wp2_with (go_at_call 29; refine HL.out.mono ?_; rintro e w9 ⟨rfl, hr9, hc9⟩; have HI := hidden2 (insertValue_any (v := v) hr9 (by omega) (by omega)); have HC9 := hidden2 hc9; clear hr9 hc9)
  refine HI.out.mono ?_
  rintro e w8 ⟨rfl, hr8, hc8⟩
  have hsz : w.heap.size ≤ w9.heap.size := HC9.out.size
  have hc : Hid (Chg (fun k => k = L) w w8) := HC9.out.trans hc8 (fun b _ h => by rcases h with h | h; exact h; cases h)
  clear hc8
  go_wp2_with fail
  go_ret
  exact ⟨w9.heap.size, hsz, rfl, hr8, hc.out⟩
end Go.Proofs.Ybulkcjdg
