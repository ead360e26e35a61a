import Derived.Test.YbulkcjdgLru4
namespace Go.Proofs.Ybulkcjdg
open Go.RowKit
set_option linter.unusedVariables false
set_option linter.unusedSimpArgs false

/-- The pointer to the first of the nodes. -/
def atE : List En → Value
  | [] => .pointer none
  | x :: _ => .pointer (some ⟨x.e, 0, none⟩)

section
variable {B : Nat} {w : World} {L Mp : Nat} {m : Int} {es l1 l2 : List En} {x : En}
theorem Lru.c5 (h : Lru B w L Mp m es) : w.cell? ⟨L, 5, none⟩ = some (.int .i64 es.length) := by
  obtain ⟨V, _, ⟨rfl, hb⟩ | ⟨nx, pv, hk, _⟩⟩ := h.ring
  · simp [World.cell?, show w.heap[L]? = _ from hb]
  · exact hk.rcells.2.2.2.1
theorem Lru.c1 (h : Lru B w L Mp m (x :: es)) : w.cell? ⟨L, 1, none⟩ = some (.pointer (some ⟨x.e, 0, none⟩)) := by
  obtain ⟨V, _, ⟨h0, _⟩ | ⟨nx, pv, hk, hs, _⟩⟩ := h.ring
  · cases h0
  · have h1 := hk.rcells.2.1
    have h2 : nx L = x.e := hs.1
    rw [h2, ptrN_node (hk.node x.e (by simp)).1] at h1
    exact h1

set_option maxRecDepth 100000 in
theorem len_any (h : Lru B w L Mp m es) : Calls Yba.prog 13 #[.pointer (some ⟨L, 1, none⟩)] w fun e w' => e = .returned (.int .i64 es.length) ∧ w' = w := by
  have c5 := h.c5
  clear h
  go_enter Yba.func13, Yba.ntmps13
  go_wp2
  go_ret
  exact ⟨rfl, rfl⟩
set_option maxRecDepth 100000 in
theorem front_any (h : Lru B w L Mp m es) : Calls Yba.prog 14 #[.pointer (some ⟨L, 1, none⟩)] w fun e w' => e = .returned (atE es) ∧ w' = w := by
  have c5 := h.c5
  cases es with
  | nil =>
    have c5 : w.cell? ⟨L, 5, none⟩ = some (.int .i64 0) := c5
    clear h
    go_enter Yba.func14, Yba.ntmps14
    go_wp2
    go_ret
    exact ⟨rfl, rfl⟩
  | cons x es =>
    have c1 := h.c1
    obtain ⟨n, hn, hp⟩ : ∃ n : Int, n = ((x :: es).length : Int) ∧ 1 ≤ n := ⟨_, rfl, by simp only [List.length_cons]; omega⟩
    rw [← hn] at c5
    have hne : (n == 0) = false := by simp; omega
    clear h hn
    go_enter Yba.func14, Yba.ntmps14
    go_wp2
    go_ret
    exact ⟨rfl, rfl⟩
set_option maxRecDepth 100000 in
theorem next_any (h : Lru B w L Mp m (l1 ++ x :: l2)) : Calls Yba.prog 15 #[.pointer (some ⟨x.e, 0, none⟩)] w fun e w' => e = .returned (atE l2) ∧ w' = w := by
  obtain ⟨V, _, ⟨h0, _⟩ | ⟨nx, pv, hk, hs, hnd⟩⟩ := h.ring
  · simp at h0
  obtain ⟨j, hj, hjs⟩ := info38
  have hx : x.e ∈ (l1 ++ x :: l2).map (·.e) := by simp
  obtain ⟨e0, _, e2, _, _⟩ := hk.cells hx
  simp only [List.map_append, List.map_cons] at hs
  have hs2 := ((seg_append _ _ L).1 hs).2
  cases l2 with
  | nil =>
    have hn : nx x.e = L := hs2.1
    rw [hn, ptrN_root] at e0
    have he := run_neq_ptr_one (P := Yba.prog) w ⟨L, 1, none⟩ Yba.underlying35 hj
    clear hk hs hs2 hnd h
    go_enter Yba.func15, Yba.ntmps15
    go_wp2
    go_ret
    exact ⟨rfl, rfl⟩
  | cons y l2 =>
    have hn : nx x.e = y.e := hs2.1
    have hy := hk.node y.e (by simp)
    rw [hn, ptrN_node hy.1] at e0
    have he := run_neq_ptr_two (P := Yba.prog) w (a := ⟨y.e, 0, none⟩) (b := ⟨L, 1, none⟩) Yba.underlying35 hj hjs (by intro e; injection e with e1; exact hy.1 e1) hy.2 hk.root
    clear hk hs hs2 hnd h hy
    go_enter Yba.func15, Yba.ntmps15
    go_wp2
    go_ret
    exact ⟨rfl, rfl⟩
end
end Go.Proofs.Ybulkcjdg
