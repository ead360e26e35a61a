import Derived.Test.YbulkcjdgDoorZ8
import Derived.Deep.MidRow
import Derived.Deep.CutRange
import Derived.Deep.DeepCutAuto
import Derived.Deep.RegionHeld3
namespace Go.Proofs.YbulkcjdgDoor
open Go.RowKit
set_option linter.unusedVariables false
set_option linter.unusedSimpArgs false

/-- An estimator's parts. -/
structure Sp where
  key : Nat
  q : Nat
  steps : Nat
  R : Nat
  ru : Int
  rd : Int
  ends : Nat → Nat
  ne : Nat
  li : Bool
  win : Nat
  rb : Nat → Nat
  rv : Nat → Nat → Nat
structure Sp.Ok (s : Sp) (E : Nat) : Prop where
  key : s.key < 18446744073709551616
  q1 : 1 ≤ s.q
  q2 : s.q ≤ 2 ^ s.steps
  st1 : 2 ≤ s.steps
  st2 : s.steps ≤ 30
  ends : ∀ m, s.ends m < 18446744073709551616
  ne : s.ne = 1 ∨ s.ne = 3
  win : s.win < 18446744073709551616
  R : s.R ≠ E
  rb : ∀ i, i < s.steps + 2 → s.rb i ≠ E
  rv1 : ∀ i k, 1 ≤ s.rv i k
  rv2 : ∀ i k, s.rv i k < 18446744073709551616
structure Sp.At (s : Sp) (E : Nat) (w : World) : Prop where
  c0 : w.cell? ⟨E, 0, none⟩ = some (.int .u64 s.key)
  c1 : w.cell? ⟨E, 1, none⟩ = some (.int .u64 s.q)
  c2 : w.cell? ⟨E, 2, none⟩ = some (.int .i64 s.steps)
  c3 : w.cell? ⟨E, 3, none⟩ = some (.slice (some ⟨s.R, 0, none⟩) (s.steps + 2) (s.steps + 2))
  c4 : w.cell? ⟨E, 4, none⟩ = some (.int .i64 s.ru)
  c5 : w.cell? ⟨E, 5, none⟩ = some (.int .i64 s.rd)
  c6 : ∀ m, m < 3 → w.cell? ⟨E, 6 + m, none⟩ = some (.int .u64 (s.ends m))
  c9 : w.cell? ⟨E, 9, none⟩ = some (.int .i64 s.ne)
  c10 : w.cell? ⟨E, 10, none⟩ = some (.bool s.li)
  c11 : w.cell? ⟨E, 11, none⟩ = some (.int .u64 s.win)
  r : ∀ i, i < s.steps + 2 → w.cell? ⟨s.R, i, none⟩ = some (.slice (some ⟨s.rb i, 0, none⟩) (i + 1) (i + 1))
  v : ∀ i k, i < s.steps + 2 → k < i + 1 → w.cell? ⟨s.rb i, k, none⟩ = some (.int .u64 (s.rv i k))
theorem Sp.At.new {s : Sp} {E : Nat} {w w' : World} (h : s.At E w) (hN : New w w') : s.At E w' :=
  ⟨hN.cells h.c0, hN.cells h.c1, hN.cells h.c2, hN.cells h.c3, hN.cells h.c4, hN.cells h.c5, fun m hm => hN.cells (h.c6 m hm), hN.cells h.c9, hN.cells h.c10, hN.cells h.c11, fun i hi => hN.cells (h.r i hi), fun i k hi hk => hN.cells (h.v i k hi hk)⟩
/-- The estimator's block alone, from its twelfth cell on, and new blocks have turned. -/
structure Step (E : Nat) (w w' : World) : Prop where
  chg : Chg (fun b => b = E) w w'
  low : ∀ j, j < 12 → w'.cell? ⟨E, j, none⟩ = w.cell? ⟨E, j, none⟩
theorem Step.refl (E : Nat) (w : World) : Step E w w := ⟨Chg.refl _ _, fun _ _ => rfl⟩
theorem Step.trans {E : Nat} {w w' w'' : World} (h : Step E w w') (k : Step E w' w'') : Step E w w'' := ⟨h.chg.trans k.chg fun _ _ h => h, fun j hj => (k.low j hj).trans (h.low j hj)⟩
theorem Step.set {E : Nat} {w w' : World} (h : Step E w w') (j : Nat) (hj : 12 ≤ j) (v : Value) : Step E w (w'.setCell ⟨E, j, none⟩ v) :=
  ⟨h.chg.setCell (.inl rfl) v, fun i hi => (World.cell?_setCell_other _ _ _ _ (by simp only [ne_eq, Addr.mk.injEq, not_and]; omega)).trans (h.low i hi)⟩
theorem Step.alloc {E : Nat} {w w' : World} (h : Step E w w') (hE : E < w'.heap.size) (o : Obj) : Step E w (w'.alloc o) :=
  ⟨h.chg.alloc o, fun i hi => (World.cell?_of_block (Go.Deep.blk_alloc_lt _ _ _ hE)).trans (h.low i hi)⟩
theorem Step.drewN {E : Nat} {w w' : World} (h : Step E w w') (n : Nat) : Step E w (w'.drewN n) := ⟨h.chg.drewN n, h.low⟩
theorem Step.drew {E : Nat} {w w' : World} (h : Step E w w') : Step E w w'.drew := ⟨h.chg.drew, h.low⟩
theorem Sp.At.step {s : Sp} {E : Nat} {w w' : World} (h : s.At E w) (hN : Step E w w') (hO : s.Ok E) : s.At E w' :=
  ⟨(hN.low 0 (by omega)).trans h.c0, (hN.low 1 (by omega)).trans h.c1, (hN.low 2 (by omega)).trans h.c2, (hN.low 3 (by omega)).trans h.c3, (hN.low 4 (by omega)).trans h.c4, (hN.low 5 (by omega)).trans h.c5, fun m hm => (hN.low (6 + m) (by omega)).trans (h.c6 m hm), (hN.low 9 (by omega)).trans h.c9, (hN.low 10 (by omega)).trans h.c10, (hN.low 11 (by omega)).trans h.c11, fun i hi => hN.chg.cell (h.r i hi) hO.R, fun i k hi hk => hN.chg.cell (h.v i k hi hk) (hO.rb i hi)⟩
/-- What narrow lays. -/
structure Nr (w : World) (E al : Nat) (near : Nat → Nat) : Prop where
  a : w.cell? ⟨E, 12, none⟩ = some (.int .u32 al)
  n : ∀ i, i < 256 → w.cell? ⟨E, 13 + i, none⟩ = some (.int .u32 (near i))
  f : ∀ i, w.frozen? ⟨E, i, none⟩ = false
  al : al < 4294967296
  nb : ∀ i, near i < 4294967296
theorem zrow (w : World) : (zeroValue 37).run Ybad.prog w = .ok (.agg (Array.replicate 256 (.int .u32 0))) w := by kernel_rfl
theorem zsize : (Ybad.prog.info? 37).map (·.size) = some 256 := by kernel_rfl

end Go.Proofs.YbulkcjdgDoor
