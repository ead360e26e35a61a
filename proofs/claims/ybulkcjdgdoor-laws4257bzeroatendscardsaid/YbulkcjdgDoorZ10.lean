import Derived.Test.YbulkcjdgDoorZ9
namespace Go.Proofs.YbulkcjdgDoor
open Go.RowKit
set_option linter.unusedVariables false
set_option linter.unusedSimpArgs false

theorem Chg.setCells {S : Nat → Prop} (b : Nat) (hb : S b) : ∀ (vs : List Value) (o : Nat) {w w' : World}, Chg S w w' → Chg S w (w'.setCells b o vs)
  | [], _, _, _, h => h
  | v :: r, o, _, _, h => by
    rw [World.setCells]
    exact Chg.setCells b hb r (o + 1) (h.setCell (.inl hb) v)
/-- The world when all is laid to nought. -/
theorem start_any (E W : Nat) (w : World) (Z : Array Value) (hZ : Array.replicate 256 (Value.int .u32 0) = Z) (hb : ∀ j, j < 258 → (w.cell? ⟨E, 12 + j, none⟩).isSome = true) (hf : ∀ i, w.frozen? ⟨E, i, none⟩ = false) :
    ∃ w1, (storeCells ⟨E, 13, none⟩ Z.toList).run Ybad.prog (w.setCell ⟨E, 12, none⟩ (.int .u32 0)) = .ok () w1 ∧ Step E w w1 ∧ Nr w1 E 0 (fun _ => 0) ∧ (w1.cell? ⟨E, 269, none⟩).isSome = true := by
  have hl : Z.toList.length = 256 := by rw [← hZ, Array.toList_replicate, List.length_replicate]
  have hv : ∀ v ∈ Z.toList, v = .int .u32 0 := fun v h => by rw [← hZ, Array.toList_replicate] at h; exact List.eq_of_mem_replicate h
  clear hZ
  have hs : ∀ j, j < 258 → ((w.setCell ⟨E, 12, none⟩ (.int .u32 0)).cell? ⟨E, 12 + j, none⟩).isSome = true := by
    intro j hj
    by_cases h : j = 0
    · subst h
      obtain ⟨v, hv⟩ := Option.isSome_iff_exists.1 (hb 0 (by omega))
      rw [show 12 + 0 = 12 from rfl, World.cell?_setCell_same _ _ _ hv]; rfl
    · rw [World.cell?_setCell_other _ _ _ _ (by simp only [ne_eq, Addr.mk.injEq, not_and]; omega)]; exact hb j hj
  have hs' : ∀ j, j < Z.toList.length → ((w.setCell ⟨E, 12, none⟩ (.int .u32 0)).cell? ⟨E, 13 + j, none⟩).isSome = true := by
    intro j hj
    have := hs (1 + j) (by omega)
    rwa [show 12 + (1 + j) = 13 + j by omega] at this
  have hrun := run_storeCells_cells (P := Ybad.prog) E 13 Z.toList 0 (w.setCell ⟨E, 12, none⟩ (.int .u32 0)) (fun j hj => hs' j hj) (fun j hj => by rw [World.frozen?_setCell]; exact hf _) (fun v h => by rw [hv v h]; rfl)
  have hin := World.cell?_setCells_in E Z.toList 13 (w.setCell ⟨E, 12, none⟩ (.int .u32 0)) hs'
  refine ⟨_, hrun, ⟨?_, ?_⟩, ⟨?_, ?_, ?_, by omega, fun _ => by omega⟩, ?_⟩
  · exact Chg.setCells (S := fun b => b = E) E rfl _ _ ((Chg.refl (fun b => b = E) w).setCell (.inl rfl) _)
  · intro j hj
    rw [World.cell?_setCells_out _ _ _ _ _ (fun _ _ => .inl (by simp only []; omega)), World.cell?_setCell_other _ _ _ _ (by simp only [ne_eq, Addr.mk.injEq, not_and]; omega)]
  · obtain ⟨v, hv⟩ := Option.isSome_iff_exists.1 (hb 0 (by omega))
    rw [World.cell?_setCells_out _ _ _ _ _ (fun _ _ => .inl (by simp only []; omega))]
    exact World.cell?_setCell_same _ _ _ hv
  · intro i hi
    have := hin i (by omega)
    rw [hv _ (List.getElem_mem _)] at this
    exact this
  · intro i
    rw [World.frozen?_setCells, World.frozen?_setCell]
    exact hf i
  · rw [World.cell?_setCells_out _ _ _ _ _ (fun _ _ => .inr (by simp only []; omega))]
    exact hs 257 (by omega)

theorem Nr.set {w : World} {E al : Nat} {near : Nat → Nat} (h : Nr w E al near) (j v : Nat) (hj : j < 256) (hv : v < 4294967296) : Nr (w.setCell ⟨E, 13 + j, none⟩ (.int .u32 v)) E al (fun i => if i = j then v else near i) := by
  refine ⟨?_, fun i hi => ?_, fun i => by rw [World.frozen?_setCell]; exact h.f i, h.al, fun i => ?_⟩
  · rw [World.cell?_setCell_other _ _ _ _ (by simp only [ne_eq, Addr.mk.injEq, not_and]; omega)]; exact h.a
  · by_cases e : i = j
    · subst e
      rw [World.cell?_setCell_same _ _ _ (h.n i hi), if_pos rfl]
    · rw [World.cell?_setCell_other _ _ _ _ (by simp only [ne_eq, Addr.mk.injEq, not_and]; omega), if_neg e]; exact h.n i hi
  · show (if i = j then v else near i) < _
    split
    · exact hv
    · exact h.nb i
theorem Nr.setA {w : World} {E al : Nat} {near : Nat → Nat} (h : Nr w E al near) (v : Nat) (hv : v < 4294967296) : Nr (w.setCell ⟨E, 12, none⟩ (.int .u32 v)) E v near := by
  refine ⟨World.cell?_setCell_same _ _ _ h.a, fun i hi => ?_, fun i => by rw [World.frozen?_setCell]; exact h.f i, hv, h.nb⟩
  rw [World.cell?_setCell_other _ _ _ _ (by simp only [ne_eq, Addr.mk.injEq, not_and]; omega)]; exact h.n i hi
theorem Nr.setW {w : World} {E al : Nat} {near : Nat → Nat} (h : Nr w E al near) (v : Value) : Nr (w.setCell ⟨E, 269, none⟩ v) E al near := by
  refine ⟨?_, fun i hi => ?_, fun i => by rw [World.frozen?_setCell]; exact h.f i, h.al, h.nb⟩
  · rw [World.cell?_setCell_other _ _ _ _ (by simp only [ne_eq, Addr.mk.injEq, not_and]; omega)]; exact h.a
  · rw [World.cell?_setCell_other _ _ _ _ (by simp only [ne_eq, Addr.mk.injEq, not_and]; omega)]; exact h.n i hi
theorem Nr.drewN {w : World} {E al : Nat} {near : Nat → Nat} (h : Nr w E al near) (n : Nat) : Nr (w.drewN n) E al near := ⟨h.a, h.n, h.f, h.al, h.nb⟩
theorem Nr.drew {w : World} {E al : Nat} {near : Nat → Nat} (h : Nr w E al near) : Nr w.drew E al near := ⟨h.a, h.n, h.f, h.al, h.nb⟩
theorem Nr.alloc {w : World} {E al : Nat} {near : Nat → Nat} (h : Nr w E al near) (hE : E < w.heap.size) (o : Obj) : Nr (w.alloc o) E al near := by
  have e : (w.alloc o).heap[E]? = w.heap[E]? := Go.Deep.blk_alloc_lt _ _ _ hE
  exact ⟨(World.cell?_of_block e).trans h.a, fun i hi => (World.cell?_of_block e).trans (h.n i hi), fun i => (by have := h.f i; unfold World.frozen? at this ⊢; rw [e]; exact this), h.al, h.nb⟩
theorem wrap_cell (f c y : Nat) (hy : y < 72057594037927936) : ((f + c) * 72057594037927936 + y) % 18446744073709551616 / 72057594037927936 = (f + c) % 256 := by omega
theorem turn1 (t d s0 : Nat) (hd : d < 4611686018427387904) (ht : t < 18446744073709551616) (hs : (t + (18446744073709551616 - d)) % 18446744073709551616 = s0) : s0 < 18446744073709551616 ∧ (s0 + d) % 18446744073709551616 = t := by omega
theorem turn2 (t d s0 : Nat) (h : (s0 + d) % 18446744073709551616 = t) : (t + d) % 18446744073709551616 = (s0 + 2 * d) % 18446744073709551616 := by omega
theorem split56 (x : Nat) : ∃ c y, x = c * 72057594037927936 + y ∧ y < 72057594037927936 := ⟨x / 72057594037927936, x % 72057594037927936, by rw [Nat.mul_comm]; exact (Nat.div_add_mod _ _).symm, Nat.mod_lt _ (by decide)⟩
theorem div56 (c y : Nat) (hy : y < 72057594037927936) : (c * 72057594037927936 + y) / 72057594037927936 = c := by omega
theorem join56 (f x d c y : Nat) (h : x + d = c * 72057594037927936 + y) : f * 72057594037927936 + x + d = (f + c) * 72057594037927936 + y := by omega
theorem mod_le (f c1 c2 : Nat) (h1 : c1 ≤ c2) (h2 : c2 < 256) (hf : f < 256) : c1 < ((f + c2) % 256 + 256 - f) % 256 + 1 := by omega
/-- The end's own cell is among those that are marked. -/
theorem cell_mark (t r f l n : Nat) (ht : t < 18446744073709551616) (hr1 : 1 ≤ r) (hr2 : r ≤ 4611686018427387904) (hf : (t + (18446744073709551616 - (r - 1))) % 18446744073709551616 / 72057594037927936 = f) (hl : (t + (r - 1)) % 18446744073709551616 / 72057594037927936 = l) (hn : (l + 256 - f) % 256 + 1 = n) :
    ∃ c, c < n ∧ (f + c) % 256 = t / 72057594037927936 := by
  obtain ⟨d, rfl⟩ : ∃ d, r = d + 1 := ⟨r - 1, by omega⟩
  rw [Nat.add_sub_cancel] at hf hl
  obtain ⟨s0, hs0⟩ : ∃ s0, (t + (18446744073709551616 - d)) % 18446744073709551616 = s0 := ⟨_, rfl⟩
  rw [hs0] at hf
  obtain ⟨hs1, ht1⟩ := turn1 t d s0 (by omega) ht hs0
  rw [turn2 t d s0 ht1] at hl
  clear hs0
  obtain ⟨f', x, rfl, hx⟩ := split56 s0
  rw [div56 f' x hx] at hf
  subst hf
  obtain ⟨c1, y1, e1, hy1⟩ := split56 (x + d)
  obtain ⟨c2, y2, e2, hy2⟩ := split56 (x + 2 * d)
  have k1 : f' * 72057594037927936 + x + d = (f' + c1) * 72057594037927936 + y1 := join56 _ _ _ _ _ e1
  have k2 : f' * 72057594037927936 + x + 2 * d = (f' + c2) * 72057594037927936 + y2 := join56 _ _ _ _ _ e2
  rw [k2, wrap_cell _ _ _ hy2] at hl
  rw [k1] at ht1
  have q1 := wrap_cell f' c1 y1 hy1
  rw [ht1] at q1
  have h12 : c1 ≤ c2 := by clear hl q1 hn k1 k2 ht1 ht hs1; omega
  have h22 : c2 < 256 := by clear hl q1 hn k1 k2 ht1 ht hs1; omega
  have hf2 : f' < 256 := by clear hl q1 hn k1 k2 ht1 ht; omega
  subst hl
  subst hn
  exact ⟨c1, mod_le f' c1 c2 h12 h22 hf2, q1.symm⟩
end Go.Proofs.YbulkcjdgDoor
