import Derived.Test.YbulkcjdgLru
namespace Go.Proofs.Ybulkcjdg
open Go.RowKit
open Go.Deep (blk_alloc_lt blk_alloc_new nblk_alloc blk_setCell_other nblk_setCell)
set_option linter.unusedVariables false
set_option linter.unusedSimpArgs false

@[go_sem] theorem as46 (v : Value) (w : World) : (Instr.typeAssert (.iface 46 v) 20 46 false).run Yba.prog w = .ok v w := by kernel_rfl

theorem MapI.same {w : World} {Mp : Nat} {ks ks' : List (Int × Nat)} (h : MapI w Mp ks) (hp : ks'.Perm ks) : MapI w Mp ks' := by
  obtain ⟨D, h1, h2, h3, h4⟩ := h
  refine ⟨D, by rw [hp.length_eq]; exact h1, fun k => ?_, fun x hx => h3 x (hp.mem_iff.1 hx), h4.trans hp.length_eq.symm⟩
  rw [h2, Bool.eq_iff_iff]
  simp only [List.any_eq_true]
  exact ⟨fun ⟨x, hx, e⟩ => ⟨x, hp.mem_iff.2 hx, e⟩, fun ⟨x, hx, e⟩ => ⟨x, hp.mem_iff.1 hx, e⟩⟩

theorem wpList_delete_mi {w : World} {ops : Array Oper} {rest : List Oper} {o : Oper} {a : Act} {Q : Exit → Act → World → Prop} (hg : o.guard = none) (m x : Operand) (hop : o.op = Op.call { callee := Callee.builtin Builtin.delete, args := #[m, x], argTypes := #[41, 3] })
    {Mp : Nat} {l1 l2 : List (Int × Nat)} {k : Int} {e : Nat} (hm : a.eval m = .map (some Mp)) (hx : a.eval x = .int .i64 k) (h : MapI w Mp (l1 ++ (k, e) :: l2)) (hnd : ((l1 ++ (k, e) :: l2).map Prod.fst).Nodup) (hw : (Lit.int .i64 k).wf = true)
    (hK : ∀ w', MapI w' Mp (l1 ++ l2) → Chg (fun b => b = Mp) w w' → wpList Yba.prog ops Q rest (a.put o.dst (.tuple #[])) w') :
    wpList Yba.prog ops Q (o :: rest) a w := by
  refine wpList_plain hg fun K' hK' => ?_
  obtain ⟨w', hrun, r1, r2⟩ := h.drop rfl hnd hw o.type
  unfold Oper.wp
  simp [execOp, hop, resolve, invoke, builtin, hm, hx, hrun, Result.andThen]
  exact hK' _ _ (hK w' r1 r2)
theorem wpList_store_mi {w : World} {ops : Array Oper} {rest : List Oper} {o : Oper} {a : Act} {Q : Exit → Act → World → Prop} (hg : o.guard = none) (m x v : Operand) (hop : o.op = Op.mapUpdate 41 m x v)
    {Mp : Nat} {ks : List (Int × Nat)} {k : Int} {e : Nat} (hm : a.eval m = .map (some Mp)) (hx : a.eval x = .int .i64 k) (hv : a.eval v = .pointer (some ⟨e, 0, none⟩)) (h : MapI w Mp ks) (hk : k ∉ ks.map Prod.fst) (hw : (Lit.int .i64 k).wf = true) (hn : ks.length ≤ 1000000)
    (hK : ∀ w', MapI w' Mp ((k, e) :: ks) → Chg (fun b => b = Mp) w w' → wpList Yba.prog ops Q rest (a.put o.dst undef) w') :
    wpList Yba.prog ops Q (o :: rest) a w := by
  refine wpList_plain hg fun K' hK' => ?_
  obtain ⟨w', hrun, r1, r2⟩ := h.store e hk hw hn
  unfold Oper.wp
  simp [execOp, hop, hm, hx, hv, hrun, Result.andThen]
  exact hK' _ _ (hK w' r1 r2)

section
variable {B : Nat} {w w' : World} {L Mp : Nat} {m : Int} {es es' l1 l2 : List En} {x y : En}
theorem Lru.vL (h : Lru B w L Mp m es) (hx : x ∈ es) : x.v ≠ L := by
  intro e
  obtain ⟨a1, a2, a5, hb⟩ := h.root
  have h1 := h.ent x hx
  rw [e, hb] at h1
  simp at h1
theorem Lru.ve (h : Lru B w L Mp m es) (hx : x ∈ es) (hy : y ∈ es) : x.v ≠ y.e := by
  intro e
  obtain ⟨a0, a1, hb⟩ := h.node hy
  have h1 := h.ent x hx
  rw [e, hb] at h1
  simp at h1
theorem Lru.vM (h : Lru B w L Mp m es) (hx : x ∈ es) : x.v ≠ Mp := by
  intro e
  obtain ⟨a0, a1, hb⟩ := h.map.obj
  have h1 := h.ent x hx
  rw [e, hb] at h1
  simp at h1
theorem Lru.ML (h : Lru B w L Mp m es) : Mp ≠ L := by
  intro e
  obtain ⟨a1, a2, a5, hb⟩ := h.root
  obtain ⟨a0, a1, h1⟩ := h.map.obj
  rw [e, hb] at h1
  simp at h1
theorem Lru.Me (h : Lru B w L Mp m es) (hy : y ∈ es) : Mp ≠ y.e := by
  intro e
  obtain ⟨a0, a1, hb⟩ := h.node hy
  obtain ⟨a0, a1, h1⟩ := h.map.obj
  rw [e, hb] at h1
  simp at h1
theorem Lru.vnot (h : Lru B w L Mp m es) (hx : x ∈ es) : ¬ (x.v = L ∨ x.v ∈ es.map (·.e)) := by
  rintro (e | e)
  · exact h.vL hx e
  · obtain ⟨y, hy, e⟩ := List.mem_map.1 e
    exact h.ve hx hy e.symm
theorem Lru.Mnot (h : Lru B w L Mp m es) : ¬ (Mp = L ∨ Mp ∈ es.map (·.e)) := by
  rintro (e | e)
  · exact h.ML e
  · obtain ⟨y, hy, e⟩ := List.mem_map.1 e
    exact h.Me hy e.symm

/-- The nodes have been laid in another order. -/
theorem Lru.turn (h : Lru B w L Mp m es) (hp : es'.Perm es) {V : Nat → Nat} (hV : ∀ x, x ∈ es → V x.e = x.v) (hr : Ring w' L Mp m es.length V (es'.map (·.e))) (hc : Chg (fun k => k = L ∨ k ∈ es.map (·.e)) w w') : Lru B w' L Mp m es' := by
  refine ⟨⟨V, fun x hx => hV x (hp.mem_iff.1 hx), .inr (by rw [hp.length_eq]; exact hr)⟩, ?_, ?_, ?_, ?_, ?_, ?_⟩
  · intro x hx
    have hx' := hp.mem_iff.1 hx
    exact (hc.block _ (h.lt _ (.inr (.inr ⟨x, hx', .inr rfl⟩))) (h.vnot hx')).trans (h.ent x hx')
  · exact (hp.map _).nodup_iff.2 h.vnd
  · exact (hp.map _).nodup_iff.2 h.knd
  · exact fun x hx => h.kwf x (hp.mem_iff.1 hx)
  · exact (h.map.keep (hc.block _ h.map.lt h.Mnot)).same (hp.map _)
  · exact ⟨h.low.1, h.low.2.1, fun x hx => h.low.2.2 x (hp.mem_iff.1 hx)⟩
theorem chg_lru (hc : Chg (fun k => k = L ∨ k ∈ es.map (·.e)) w w') : Chg (LruS L Mp es) w w' := hc.mono fun b _ hb => by
  rcases hb with rfl | hb
  · exact .inl rfl
  · obtain ⟨y, hy, rfl⟩ := List.mem_map.1 hb
    exact .inr (.inr ⟨y, hy, .inl rfl⟩)

/-- What MoveToFront does. -/
theorem Lru.front (h : Lru B w L Mp m (l1 ++ x :: l2)) :
    Calls Yba.prog 21 #[.pointer (some ⟨L, 1, none⟩), .pointer (some ⟨x.e, 0, none⟩)] w fun e w' => e = .returned (.tuple #[]) ∧ Lru B w' L Mp m (x :: (l1 ++ l2)) ∧ Chg (LruS L Mp (l1 ++ x :: l2)) w w' := by
  obtain ⟨V, hV, ⟨h0, _⟩ | hr⟩ := h.ring
  · simp at h0
  simp only [List.map_append, List.map_cons] at hr
  refine (mtf_any hr).mono ?_
  rintro e w9 ⟨rfl, hr9, hc9⟩
  have hc : Chg (fun k => k = L ∨ k ∈ (l1 ++ x :: l2).map (·.e)) w w9 := by simpa only [List.map_append, List.map_cons] using hc9
  exact ⟨rfl, h.turn List.perm_middle.symm hV (by simpa only [List.map_append, List.map_cons] using hr9) hc, chg_lru hc⟩

theorem Lru.c6 (h : Lru B w L Mp m es) : w.cell? ⟨L, 6, none⟩ = some (.map (some Mp)) := by
  obtain ⟨a1, a2, a5, hb⟩ := h.root
  simp [World.cell?, hb]
theorem Lru.c0 (h : Lru B w L Mp m es) : w.cell? ⟨L, 0, none⟩ = some (.int .i64 m) := by
  obtain ⟨a1, a2, a5, hb⟩ := h.root
  simp [World.cell?, hb]
theorem Lru.n3 (h : Lru B w L Mp m es) (hx : x ∈ es) : w.cell? ⟨x.e, 3, none⟩ = some (.iface 46 (.pointer (some ⟨x.v, 0, none⟩))) := by
  obtain ⟨a1, a2, hb⟩ := h.node hx
  simp [World.cell?, hb]
theorem Lru.v0 (h : Lru B w L Mp m es) (hx : x ∈ es) : w.cell? ⟨x.v, 0, none⟩ = some (.int .i64 x.k) := by
  simp [World.cell?, h.ent x hx]
theorem Lru.v1 (h : Lru B w L Mp m es) (hx : x ∈ es) : w.cell? ⟨x.v, 1, none⟩ = some (.int .i64 x.x) := by
  simp [World.cell?, h.ent x hx]
theorem Lru.vf (h : Lru B w L Mp m es) (hx : x ∈ es) (j : Nat) : w.frozen? ⟨x.v, j, none⟩ = false := by
  simp [World.frozen?, h.ent x hx]

set_option maxRecDepth 100000 in
set_option maxHeartbeats 1000000 in
theorem get_hit (h : Lru B w L Mp m (l1 ++ x :: l2)) :
    Calls Yba.prog 8 #[.pointer (some ⟨L, 0, none⟩), .int .i64 x.k] w fun e w' => e = .returned (.tuple #[.int .i64 x.x, .bool true]) ∧ Lru B w' L Mp m (x :: (l1 ++ l2)) ∧ Chg (LruS L Mp (l1 ++ x :: l2)) w w' := by
  have hx : x ∈ l1 ++ x :: l2 := by simp
  have hlk := h.map.hit (k := x.k) (e := x.e) (List.mem_map.2 ⟨x, hx, rfl⟩) (h.kwf x hx)
  have c6 := h.c6
  have HF := hidden2 h.front
  clear h hx
  go_enter Yba.func8, Yba.ntmps8
  go_wp2_with (go_at_call 21; refine HF.out.mono ?_; rintro e w9 ⟨rfl, h9, hc9⟩; have hc3 := h9.n3 (x := x) (by simp); have hv1 := h9.v1 (x := x) (by simp); have H9 := hidden2 h9; have C9 := hidden2 hc9; clear h9 hc9 HF hlk c6)
  go_ret2
  exact ⟨rfl, H9.out, C9.out⟩

/-- An entry's value is set. -/
theorem Lru.set (h : Lru B w L Mp m (l1 ++ x :: l2)) (y : Int) : Lru B (w.setCell ⟨x.v, 1, none⟩ (.int .i64 y)) L Mp m (l1 ++ ⟨x.e, x.v, x.k, y⟩ :: l2) := by
  have hx : x ∈ l1 ++ x :: l2 := by simp
  have hoth : ∀ k, k ≠ x.v → (w.setCell ⟨x.v, 1, none⟩ (.int .i64 y)).heap[k]? = w.heap[k]? := fun k hk => blk_setCell_other _ _ _ _ hk
  have hme : (l1 ++ (⟨x.e, x.v, x.k, y⟩ : En) :: l2).map (·.e) = (l1 ++ x :: l2).map (·.e) := by simp
  have hmv : (l1 ++ (⟨x.e, x.v, x.k, y⟩ : En) :: l2).map (·.v) = (l1 ++ x :: l2).map (·.v) := by simp
  have hmk : (l1 ++ (⟨x.e, x.v, x.k, y⟩ : En) :: l2).map (·.k) = (l1 ++ x :: l2).map (·.k) := by simp
  have hmm : (l1 ++ (⟨x.e, x.v, x.k, y⟩ : En) :: l2).map (fun z => (z.k, z.e)) = (l1 ++ x :: l2).map (fun z => (z.k, z.e)) := by simp
  have hold : ∀ z, z ∈ l1 ++ (⟨x.e, x.v, x.k, y⟩ : En) :: l2 → z = ⟨x.e, x.v, x.k, y⟩ ∨ (z ∈ l1 ++ x :: l2 ∧ z.v ≠ x.v) := by
    intro z hz
    have hnd := h.vnd
    simp only [List.map_append, List.map_cons] at hnd
    have h2 := List.nodup_append.1 hnd
    rcases List.mem_append.1 hz with hz | hz
    · exact .inr ⟨by simp [hz], fun e => h2.2.2 z.v (List.mem_map.2 ⟨z, hz, rfl⟩) x.v (by simp) e⟩
    · rcases List.mem_cons.1 hz with hz | hz
      · exact .inl hz
      · exact .inr ⟨by simp [hz], fun e => (List.nodup_cons.1 h2.2.1).1 (by rw [← e]; exact List.mem_map.2 ⟨z, hz, rfl⟩)⟩
  refine ⟨?_, ?_, by rw [hmv]; exact h.vnd, by rw [hmk]; exact h.knd, ?_, by rw [hmm]; exact h.map.keep (hoth _ (h.vM hx).symm), h.low.1, h.low.2.1, ?_⟩
  · obtain ⟨V, hV, ⟨h0, _⟩ | hr⟩ := h.ring
    · simp at h0
    refine ⟨V, ?_, .inr ?_⟩
    · intro z hz
      rcases hold z hz with rfl | ⟨hz, _⟩
      · exact hV x hx
      · exact hV z hz
    · rw [hme]
      have hl : (l1 ++ (⟨x.e, x.v, x.k, y⟩ : En) :: l2).length = (l1 ++ x :: l2).length := by simp
      rw [hl]
      refine hr.keep fun k hk => hoth k fun e => h.vnot hx ?_
      rw [← e]
      exact hk
  · intro z hz
    rcases hold z hz with rfl | ⟨hz, hne⟩
    · exact heap_setCell_same _ _ 1 _ _ _ (h.ent x hx)
    · rw [hoth _ hne]
      exact h.ent z hz
  · intro z hz
    rcases hold z hz with rfl | ⟨hz, hne⟩
    · exact h.kwf x hx
    · exact h.kwf z hz
  · intro z hz
    rcases hold z hz with rfl | ⟨hz, hne⟩
    · exact h.low.2.2 x hx
    · exact h.low.2.2 z hz

set_option maxRecDepth 100000 in
set_option maxHeartbeats 1000000 in
theorem put_hit (h : Lru B w L Mp m (l1 ++ x :: l2)) (y : Int) :
    Calls Yba.prog 10 #[.pointer (some ⟨L, 0, none⟩), .int .i64 x.k, .int .i64 y] w fun e w' => e = .returned (.tuple #[.int .i64 0, .bool false]) ∧ Lru B w' L Mp m (⟨x.e, x.v, x.k, y⟩ :: (l1 ++ l2)) ∧ Chg (LruS L Mp (l1 ++ x :: l2)) w w' := by
  have hx : x ∈ l1 ++ x :: l2 := by simp
  have hlk := h.map.hit (k := x.k) (e := x.e) (List.mem_map.2 ⟨x, hx, rfl⟩) (h.kwf x hx)
  have c6 := h.c6
  have c6' := (h.set y).c6
  have c3 := h.n3 hx
  have v1 := h.v1 hx
  have vf := h.vf hx 1
  have HF := hidden2 (h.set y).front
  have HC : Hid (Chg (LruS L Mp (l1 ++ x :: l2)) w (w.setCell ⟨x.v, 1, none⟩ (.int .i64 y))) := hidden2 ((Chg.refl _ w).setCell (p := ⟨x.v, 1, none⟩) (.inl (.inr (.inr ⟨x, hx, .inr rfl⟩))) _)
  have HT : Hid (∀ b, LruS L Mp (l1 ++ ⟨x.e, x.v, x.k, y⟩ :: l2) b → LruS L Mp (l1 ++ x :: l2) b) := hidden2 (by
    rintro b (h | h | ⟨z, hz, h⟩)
    · exact .inl h
    · exact .inr (.inl h)
    · rcases List.mem_append.1 hz with hz | hz
      · exact .inr (.inr ⟨z, by simp [hz], h⟩)
      · rcases List.mem_cons.1 hz with rfl | hz
        · exact .inr (.inr ⟨x, by simp, h⟩)
        · exact .inr (.inr ⟨z, by simp [hz], h⟩))
  clear h hx
  go_enter Yba.func10, Yba.ntmps10
  go_wp2_with (go_at_call 21; refine HF.out.mono ?_; rintro e w9 ⟨rfl, h9, hc9⟩; have H9 := hidden2 h9; have C9 := hidden2 hc9; clear h9 hc9)
  go_ret2
  exact ⟨rfl, H9.out, HC.out.trans C9.out fun b _ hb => HT.out b hb⟩
end
end Go.Proofs.Ybulkcjdg
