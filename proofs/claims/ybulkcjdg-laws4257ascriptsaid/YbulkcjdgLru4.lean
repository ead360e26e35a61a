import Derived.Test.YbulkcjdgLru3
namespace Go.Proofs.Ybulkcjdg
open Go.RowKit
open Go.Deep (blk_alloc_lt blk_alloc_new nblk_alloc blk_setCell_other nblk_setCell)
set_option linter.unusedVariables false
set_option linter.unusedSimpArgs false

section
variable {B : Nat} {w w' : World} {L Mp : Nat} {m : Int} {es es' l1 l2 : List En} {x y : En}

theorem Lru.remove (h : Lru B w L Mp m (l1 ++ x :: l2)) (hn : (l1 ++ x :: l2).length ≤ 1000) :
    Calls Yba.prog 22 #[.pointer (some ⟨L, 1, none⟩), .pointer (some ⟨x.e, 0, none⟩)] w fun e w' => ∃ V : Nat → Nat, e = .returned (.iface 46 (.pointer (some ⟨x.v, 0, none⟩))) ∧ (∀ z, z ∈ l1 ++ x :: l2 → V z.e = z.v) ∧
      Ring w' L Mp m (l1 ++ l2).length V ((l1 ++ l2).map (·.e)) ∧ Chg (fun k => k = L ∨ k ∈ (l1 ++ x :: l2).map (·.e)) w w' := by
  obtain ⟨V, hV, ⟨h0, _⟩ | hr⟩ := h.ring
  · simp at h0
  simp only [List.map_append, List.map_cons] at hr
  have hl : ((l1 ++ x :: l2).length : Int) - 1 = ((l1 ++ l2).length : Int) := by simp only [List.length_append, List.length_cons]; omega
  refine (Remove_any hr (by simp only [List.length_append, List.length_cons]; omega) (by omega)).mono ?_
  rintro e w9 ⟨rfl, hr9, hc9⟩
  rw [hl] at hr9
  refine ⟨V, by rw [hV x (by simp)], hV, by simpa only [List.map_append] using hr9, by simpa only [List.map_append, List.map_cons] using hc9⟩
theorem Lru.back (h : Lru B w L Mp m (l1 ++ [x])) :
    Calls Yba.prog 23 #[.pointer (some ⟨L, 1, none⟩)] w fun e w' => e = .returned (.pointer (some ⟨x.e, 0, none⟩)) ∧ w' = w := by
  obtain ⟨V, hV, ⟨h0, _⟩ | hr⟩ := h.ring
  · simp at h0
  simp only [List.map_append, List.map_cons, List.map_nil] at hr
  exact Back_any hr (by simp only [List.length_append, List.length_cons]; omega)

theorem Lru.dropped (h : Lru B w L Mp m (l1 ++ x :: l2)) {w9 : World} {V : Nat → Nat} (hV : ∀ z, z ∈ l1 ++ x :: l2 → V z.e = z.v) (hr : Ring w9 L Mp m (l1 ++ l2).length V ((l1 ++ l2).map (·.e))) (hc : Chg (fun k => k = L ∨ k ∈ (l1 ++ x :: l2).map (·.e)) w w9) :
    w9.cell? ⟨L, 6, none⟩ = some (.map (some Mp)) ∧ w9.cell? ⟨x.v, 0, none⟩ = some (.int .i64 x.k) ∧ ∃ w3, (∀ ty, (Builtin.delete_ #[41, 3] ty #[.map (some Mp), .int .i64 x.k]).run Yba.prog w9 = .ok (.tuple #[]) w3) ∧ Lru B w3 L Mp m (l1 ++ l2) ∧ Chg (LruS L Mp (l1 ++ x :: l2)) w w3 := by
  have hx : x ∈ l1 ++ x :: l2 := by simp
  have hm9 : MapI w9 Mp ((l1.map fun x => (x.k, x.e)) ++ (x.k, x.e) :: (l2.map fun x => (x.k, x.e))) := by
    have := h.map.keep (hc.block _ h.map.lt h.Mnot)
    simpa only [List.map_append, List.map_cons] using this
  have hnd : (((l1.map fun x => (x.k, x.e)) ++ (x.k, x.e) :: (l2.map fun x => (x.k, x.e))).map Prod.fst).Nodup := by
    have := h.knd
    simpa [List.map_map, Function.comp_def] using this
  obtain ⟨w3, hrun, hm3, hc3⟩ := hm9.drop rfl hnd (h.kwf x hx) 0
  have hlt := h.lt
  have hsub : ∀ z, z ∈ l1 ++ l2 → z ∈ l1 ++ x :: l2 := fun z hz => by
    rcases List.mem_append.1 hz with h | h <;> simp [h]
  have hkeep : ∀ z, z ∈ l1 ++ x :: l2 → w9.heap[z.v]? = some (.cells #[.int .i64 z.k, .int .i64 z.x] 49 (0, 0)) := fun z hz => (hc.block _ (hlt _ (.inr (.inr ⟨z, hz, .inr rfl⟩))) (h.vnot hz)).trans (h.ent z hz)
  have hsl : (l1 ++ l2).Sublist (l1 ++ x :: l2) := List.Sublist.append_left (List.sublist_cons_self x l2) l1
  refine ⟨hr.c6, by simp [World.cell?, hkeep x hx], w3, fun ty => hrun, ?_, ?_⟩
  · refine ⟨⟨V, fun z hz => hV z (hsub z hz), .inr (hr.keep fun b hb => hc3.block b (hr.lt b (by simpa using hb)) ?_)⟩, fun z hz => ?_, h.vnd.sublist (hsl.map _), h.knd.sublist (hsl.map _), fun z hz => h.kwf z (hsub z hz), by simpa only [List.map_append] using hm3, h.low.1, h.low.2.1, fun z hz => h.low.2.2 z (hsub z hz)⟩
    · rintro rfl
      rcases hb with e | e
      · exact h.ML e
      · obtain ⟨z, hz, e⟩ := List.mem_map.1 e
        exact h.Me (hsub z hz) e.symm
    · refine (hc3.block _ ?_ (h.vM (hsub z hz))).trans (hkeep z (hsub z hz))
      exact Nat.lt_of_lt_of_le (hlt _ (.inr (.inr ⟨z, hsub z hz, .inr rfl⟩))) hc.size
  · exact (chg_lru hc).trans hc3 fun b _ hb => .inr (.inl hb)

set_option maxRecDepth 100000 in
set_option maxHeartbeats 1000000 in
theorem remove_miss (h : Lru B w L Mp m es) (k : Int) (hk : k ∉ es.map (·.k)) (hw : (Lit.int .i64 k).wf = true) :
    Calls Yba.prog 12 #[.pointer (some ⟨L, 0, none⟩), .int .i64 k] w fun e w' => e = .returned (.tuple #[]) ∧ w' = w := by
  have hlk := h.map.miss (k := k) (h.key k hk) hw
  have c6 := h.c6
  clear h hk
  go_enter Yba.func12, Yba.ntmps12
  go_wp2_with fail
  go_end0
  exact ⟨rfl, rfl⟩

set_option maxRecDepth 100000 in
set_option maxHeartbeats 1000000 in
theorem remove_hit (h : Lru B w L Mp m (l1 ++ x :: l2)) (hn : (l1 ++ x :: l2).length ≤ 1000) :
    Calls Yba.prog 12 #[.pointer (some ⟨L, 0, none⟩), .int .i64 x.k] w fun e w' => e = .returned (.tuple #[]) ∧ Lru B w' L Mp m (l1 ++ l2) ∧ Chg (LruS L Mp (l1 ++ x :: l2)) w w' := by
  have hx : x ∈ l1 ++ x :: l2 := by simp
  have hlk := h.map.hit (k := x.k) (e := x.e) (List.mem_map.2 ⟨x, hx, rfl⟩) (h.kwf x hx)
  have c6 := h.c6
  have HR := hidden2 (h.remove hn)
  have HL := hidden2 h
  clear h hx
  go_enter Yba.func12, Yba.ntmps12
  go_wp2_with (go_at_call 22; refine HR.out.mono ?_; rintro e w9 ⟨V, rfl, hV, hr9, hc9⟩; obtain ⟨k6, _, w3, hdel, h3, hc3⟩ := HL.out.dropped hV hr9 hc9; have H3 := hidden2 h3; have C3 := hidden2 hc3; clear HR HL hV hr9 hc9 h3 hc3)
  go_end0
  exact ⟨rfl, H3.out, C3.out⟩

set_option maxRecDepth 100000 in
set_option maxHeartbeats 1000000 in
theorem new_lru (w : World) (m : Int) :
    Calls Yba.prog 6 #[.int .i64 m] w fun e w' => e = .returned (.pointer (some ⟨w.heap.size + 1, 0, none⟩)) ∧ Lru w.heap.size w' (w.heap.size + 1) w.heap.size m [] ∧ Chg (fun _ => False) w w' := by
  have hmm := @run_makeMap Yba.prog
  go_enter Yba.func6, Yba.ntmps6
  go_wp2_with fail
  go_ret
  have hn : (w.alloc (.map #[] 0)).heap.size = w.heap.size + 1 := by simp [nblk_alloc]
  refine ⟨rfl, ⟨⟨fun _ => 0, fun x hx => (by cases hx), .inl ⟨rfl, ?_⟩⟩, fun x hx => (by cases hx), by simp, by simp, fun x hx => (by cases hx), ?_, ⟨by omega, by omega, fun x hx => (by cases hx)⟩⟩, ((Chg.refl _ w).alloc _).alloc _⟩
  · unfold Bare
    rw [← hn]
    exact blk_alloc_new _ _
  · exact (MapI.made w).keep (blk_alloc_lt _ _ _ (by omega))

set_option maxRecDepth 100000 in
set_option maxHeartbeats 1000000 in
theorem put_evict (h : Lru B w L Mp m (l1 ++ [x])) (k y : Int) (hk : k ∉ (l1 ++ [x]).map (·.k)) (hw : (Lit.int .i64 k).wf = true) (hm : m ≤ ((l1 ++ [x]).length : Int)) (hm2 : (l1 ++ [x]).length ≤ 100) (hB : B ≤ w.heap.size) :
    Calls Yba.prog 10 #[.pointer (some ⟨L, 0, none⟩), .int .i64 k, .int .i64 y] w fun e w' => ∃ E V, e = .returned (.tuple #[.int .i64 x.k, .bool true]) ∧ Lru B w' L Mp m (⟨E, V, k, y⟩ :: l1) ∧ Chg (LruS L Mp (l1 ++ [x])) w w' := by
  have hx : x ∈ l1 ++ [x] := by simp
  have hlk := h.map.miss (k := k) (h.key k hk) hw
  have hlen : ∀ j ty, (Builtin.len_ #[41] ty #[.map (some Mp)]).run Yba.prog (w.drewN j) = .ok (.int .i64 (l1 ++ [x]).length) (w.drewN j) := fun j ty => by
    have := (h.map.keep (w' := w.drewN j) rfl).len ty
    simpa only [List.length_map] using this
  have hd : decide (m ≤ ((l1 ++ [x]).length : Int)) = true := by simpa using hm
  obtain ⟨n, hnn⟩ : ∃ n : Nat, n = (l1 ++ [x]).length := ⟨_, rfl⟩
  rw [← hnn] at hd
  simp only [← hnn] at hlen
  clear hnn hm
  have c6 := h.c6
  have c0 := h.c0
  have HL := hidden2 h
  have hk1 : k ∉ l1.map (·.k) := fun hm => hk (by simp only [List.map_append]; exact List.mem_append_left _ hm)
  clear h
  go_enter Yba.func10, Yba.ntmps10
  go_wp2_with fail
  go_quiet (fail)
  go_wp2_with fail
  have h1 : Lru B (w.drewN nq).drew L Mp m (l1 ++ [x]) := HL.out.keep fun _ _ => rfl
  have HC1 := hidden2 (show Chg (LruS L Mp (l1 ++ [x])) w (w.drewN nq).drew from ((Chg.refl _ w).drewN _).drew)
  have hB1 : B ≤ (w.drewN nq).drew.heap.size := hB
  clear HL hlk hlen hd c0 c6
  generalize w.drewN nq = w1 at *
  have HB := hidden2 h1.back
  have HR := hidden2 (h1.remove (by omega))
  have HL1 := hidden2 h1
  have s0 : w1.cell? ⟨x.v, 0, none⟩ = some (.int .i64 x.k) := h1.v0 hx
  clear h1
  go_region_held3 (fun w' => w'.cell? ⟨x.v, 0, none⟩ = some (.int .i64 x.k)) (go_keep) (first
    | (go_at_call 23; refine HB.out.mono ?_; rintro e w9 ⟨rfl, rfl⟩)
    | (go_at_call 22; refine HR.out.mono ?_; rintro e w9 ⟨V, rfl, hV, hr9, hc9⟩; obtain ⟨k6, kv, w3, hdel, h3, hc3⟩ := HL1.out.dropped hV hr9 hc9; have H3 := hidden2 h3; have C3 := hidden2 (HC1.out.trans hc3 (fun b _ hb => hb)); have hsz := hc3.size; clear hV hr9 hc9 h3 hc3))
  have h1 : Lru B w3 L Mp m l1 := by have := H3.out; rwa [List.append_nil] at this
  have hB3 : B ≤ w3.heap.size := Nat.le_trans hB1 hsz
  have c6 := h1.c6
  have HA := hidden2 (h1.boxed (.cells #[.int .i64 k, .int .i64 y] 49))
  have hl1 : l1.length ≤ 100 := by simp only [List.length_append, List.length_cons, List.length_nil] at hm2; omega
  have HP := hidden2 ((h1.boxed (.cells #[.int .i64 k, .int .i64 y] 49)).push (by omega) w3.drew.heap.size)
  have HN := hidden2 (show ¬ LruS L Mp l1 w3.drew.heap.size from fun hs => Nat.lt_irrefl _ (h1.lt _ hs))
  have HB := hidden2 (show (w3.drew.alloc (.cells #[.int .i64 k, .int .i64 y] 49)).heap[w3.drew.heap.size]? = some (.cells #[.int .i64 k, .int .i64 y] 49 (0, 0)) from blk_alloc_new _ _)
  have hkk := h1.key k hk1
  have hLM := h1.ML
  have HS : Hid (∀ b, LruS L Mp l1 b → LruS L Mp (l1 ++ [x]) b) := hidden2 (by
    rintro b (h | h | ⟨z, hz, h⟩)
    · exact .inl h
    · exact .inr (.inl h)
    · exact .inr (.inr ⟨z, List.mem_append_left _ hz, h⟩))
  have HC2 := hidden2 (show Chg (LruS L Mp (l1 ++ [x])) w (w3.drew.alloc (.cells #[.int .i64 k, .int .i64 y] 49)) from C3.out.drew.alloc _)
  clear h1 H3 C3 HL1 HR HC1 s0 kv
  go_wp2_with fail
  go_region_held3 (fun w' => w'.cell? ⟨L, 6, none⟩ = some (.map (some Mp))) (go_keep) (first
    | (go_at_call 24; refine HP.out.mono ?_; rintro e w9 ⟨E, V, hE, rfl, hV, hr9, hc9⟩; obtain ⟨k6, hm9, hf9⟩ := HA.out.pushed HB.out HN.out hB3 (Nat.le_trans hB3 (Nat.le_of_lt (by simp [nblk_alloc]))) hk1 hw hE hV hr9 hc9; obtain ⟨w3, hst, hm3, hc3⟩ := hm9.store E hkk hw (by simp; omega); have k63 := hc3.cell k6 hLM.symm; have H3 := hidden2 (hf9 w3 hm3 hc3); have HC3 := hidden2 (HC2.out.trans (chg_lru (Mp := Mp) hc9) (fun b _ hb => HS.out b hb)); have HC4 := hidden2 (HC3.out.trans hc3 (fun b _ hb => .inr (.inl hb))); clear hf9 hm9 hr9 hc9 hV hE hm3 hc3))
  go_wp2_with fail
  go_ret2
  exact ⟨_, _, rfl, H3.out, HC4.out⟩
end
end Go.Proofs.Ybulkcjdg
