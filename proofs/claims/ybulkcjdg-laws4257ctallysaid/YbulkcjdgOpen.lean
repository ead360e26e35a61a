import Derived.Test.YbulkcjdgLaw1
import Derived.WalkKit
import Derived.ProofKit
import Derived.OpenShut
import Derived.ShutString
import Derived.ChangeOld
import Derived.Below
import Derived.Deep.Matrix
namespace Go.Proofs.Ybulkcjdg
open Go.ChangeShapes Go.WideShapes Go.ChangeAt Go.RowKit
set_option linter.unusedVariables false

theorem o_plain_add (b o i : Nat) : (⟨b, o, none⟩ : Addr).add i = ⟨b, o + i, none⟩ := by
  by_cases h : i = 0 <;> simp [Addr.add, h]
theorem o_lt_of_cell {w : World} {p : Addr} {v : Value} (h : w.cell? p = some v) : p.block < w.heap.size := by
  apply Classical.byContradiction
  intro hn
  have : w.heap[p.block]? = none := Array.getElem?_eq_none (by omega)
  simp [World.cell?, this] at h
theorem o_row {w : World} {a : Addr} {n : Nat} {f : Nat → Value} (h : ∀ i, i < n → w.cell? (a.add i) = some (f i)) : RowAt w w.heap.size (some a) n f := by
  by_cases h0 : n = 0
  · exact .inl h0
  obtain ⟨b, off, spot⟩ := a
  have hspot : spot = none := by simpa [Addr.add] using World.cell?_spot (h 0 (by omega))
  subst hspot
  have hc' : ∀ j, j < n → w.cell? ⟨b, off + j, none⟩ = some (f j) := fun j hj => by rw [← o_plain_add]; exact h j hj
  exact .inr ⟨b, off, rfl, o_lt_of_cell (hc' 0 (by omega)), hc'⟩
theorem o_congr {w : World} {B : Nat} {a : Option Addr} {n : Nat} {f g : Nat → Value} (h : RowAt w B a n f) (e : ∀ j, j < n → f j = g j) : RowAt w B a n g := by
  rcases h with h | ⟨b, o, rfl, hl, hc⟩
  · exact .inl h
  · exact .inr ⟨b, o, rfl, hl, fun j hj => by rw [← e j hj]; exact hc j hj⟩
theorem getD_take {α : Type} (l : List α) (n j : Nat) (d : α) (h : j < n) : (l.take n).getD j d = l.getD j d := by simp [h]

section
variable {H : Type} {enc : TypeId × Value → H} {W : World} {base : Nat} {held : Bool} {a : Option Addr} {len cap : Nat} {d : DataW H} {ps : List MemPlace}

theorem o_ints {t e : TypeId} {k : IntKind} (ht : Yba.prog.underlying t = some (.slice e)) (he : Yba.prog.underlying e = some (.int k)) (hc : Yba.prog.cellsOf e = 1)
    (h : DataW.Trod enc Yba.prog W base (fun _ => true) held t (.slice a len cap) d ps) :
    (a = none → len = 0) ∧ ∃ zs : List Int, zs.length = len ∧ RowAt W W.heap.size a len (fun j => .int k (zs.getD j 0)) ∧ ∀ n ∈ zs, (Lit.int k n).wf = true := by
  obtain ⟨fuel, hf⟩ := h
  rcases open_ints ht he hc hf with ⟨hcs, _⟩ | ⟨x, l, c, zs, hcs, _, hl, hm, hz, _, hcell, hwz⟩
  · simp [Value.cells] at hcs
    obtain ⟨rfl, rfl, rfl⟩ := hcs
    exact ⟨fun _ => rfl, [], rfl, .inl rfl, fun n hn => by cases hn⟩
  · simp [Value.cells] at hcs
    obtain ⟨rfl, rfl, rfl⟩ := hcs
    have hz' : zs.length = cap := by simpa using hz
    refine ⟨(fun h => by cases h), zs.take len, by simp; omega, ?_, fun n hn => hwz n (List.mem_of_mem_take hn)⟩
    refine o_congr (o_row (f := fun j => .int k (zs.getD j 0)) fun i hi => hcell i (by omega)) fun j hj => ?_
    rw [getD_take _ _ _ _ hj]

theorem o_bools (h : DataW.Trod enc Yba.prog W base (fun _ => true) held 54 (.slice a len cap) d ps) :
    ∃ zs : List Bool, BoolsAt W W.heap.size a len zs := by
  obtain ⟨fuel, hf⟩ := h
  rcases Deep.open_slice1 Yba.underlying54 (by kernel_rfl) hf with ⟨hcs, _⟩ | ⟨x, l, c, m, n, V, D, Pl, hcs, _, hl, hm, hmm, _, hcell⟩
  · simp [Value.cells] at hcs
    obtain ⟨rfl, rfl, rfl⟩ := hcs
    exact ⟨[], rfl, .inl rfl⟩
  · simp [Value.cells] at hcs
    obtain ⟨rfl, rfl, rfl⟩ := hcs
    have hm' : m = cap := by simpa using hmm
    subst hm'
    have hb : ∀ i, i < m → ∃ b, W.cell? (x.add i) = some (.bool b) := fun i hi => by
      obtain ⟨h1, h2⟩ := hcell i hi
      obtain ⟨b, hb, _⟩ := DataW.trod_bool Yba.underlying4 h2
      simp at hb
      exact ⟨b, by rw [h1, hb]⟩
    let g : Nat → Bool := fun i => match W.cell? (x.add i) with | some (.bool b) => b | _ => false
    have hg : ∀ i, i < m → W.cell? (x.add i) = some (.bool (g i)) := fun i hi => by
      obtain ⟨b, hb⟩ := hb i hi
      have : g i = b := by show (match W.cell? (x.add i) with | some (.bool b) => b | _ => false) = b; rw [hb]
      rw [this, hb]
    refine ⟨(List.range len).map g, by simp, ?_⟩
    refine o_congr (o_row (f := fun j => .bool (g j)) fun i hi => hg i (by omega)) fun j hj => ?_
    simp [hj]

theorem o_rows (h : DataW.Trod enc Yba.prog W base (fun _ => true) held 53 (.slice a len cap) d ps) :
    ∃ S : List (List Int), ∀ q, StepsAt W W.heap.size a len S q := by
  obtain ⟨fuel, hf⟩ := h
  rcases Deep.open_int_rows Yba.underlying53 Yba.underlying56 Yba.underlying52 (by kernel_rfl) (by kernel_rfl) hf with ⟨hcs, _⟩ | ⟨x, l, c, A, L, C, Z, hcs, _, hl, hm, _, hall⟩
  · simp [Value.cells] at hcs
    obtain ⟨rfl, rfl, rfl⟩ := hcs
    exact ⟨[], fun q => ⟨rfl, fun h => by omega⟩⟩
  · simp [Value.cells] at hcs
    obtain ⟨rfl, rfl, rfl⟩ := hcs
    refine ⟨(List.range len).map fun r => (Z r).take (L r), fun q => ⟨by simp, fun hq => ?_⟩⟩
    have hS : ((List.range len).map fun r => (Z r).take (L r)).getD q [] = (Z q).take (L q) := by simp [hq]
    rw [hS]
    obtain ⟨h1, h2, h3, h4, h5, h6, h7⟩ := hall q (by omega)
    have hlen : ((Z q).take (L q)).length = L q := by simp; omega
    rw [hlen]
    obtain ⟨b, off, spot⟩ := x
    obtain ⟨b', o', e, hb, hc⟩ : ∃ b' o', (⟨b, off, spot⟩ : Addr) = ⟨b', o', none⟩ ∧ b' < W.heap.size ∧ ∀ j, j < len → W.cell? ⟨b', o' + j, none⟩ = some (.slice (A j) (L j) (C j)) := by
      rcases o_row (w := W) (a := ⟨b, off, spot⟩) (n := len) (f := fun j => .slice (A j) (L j) (C j)) (fun i hi => (hall i (by omega)).1) with h | ⟨b', o', e, hb, hc⟩
      · omega
      · cases e; exact ⟨_, _, rfl, hb, hc⟩
    refine ⟨b', o', A q, C q, congrArg some e, hb, hc q hq, by unfold maxLen at h3; omega, ?_, fun n hn => bounds_i8 (h5 n (List.mem_of_mem_take hn))⟩
    cases ha : A q with
    | none => exact .inl (by have := h6 ha; omega)
    | some a' =>
      refine o_congr (o_row (f := fun j => .int .i8 ((Z q).getD j 0)) fun i hi => (h7 a' ha).2 i (by omega)) fun j hj => ?_
      rw [getD_take _ _ _ _ hj]
end

set_option maxRecDepth 100000 in
theorem law_short (w : World) (v0 v1 v2 v3 v4 v5 v6 v7 v8 v9 : Value) (ia : Option Addr) (il ic : Nat) (hil : 1024 < il) :
    Calls Yba.prog 5 #[v0, v1, v2, v3, v4, v5, v6, v7, v8, v9, .slice ia il ic] w fun e w' => e = .returned (.bool true) ∧ Below w.heap.size w w' := by
  have hdil : decide ((1024 : Int) < (il : Int)) = true := by simp; omega
  go_enter Yba.func5, Yba.ntmps5
  go_wp2_with fail
  go_ret
  exact ⟨rfl, Below.refl _ _⟩
end Go.Proofs.Ybulkcjdg
