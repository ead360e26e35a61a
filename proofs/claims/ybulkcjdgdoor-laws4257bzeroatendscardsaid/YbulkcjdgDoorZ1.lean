import Derived.Test.YbulkcjdgDoorProg
import Derived.WalkKit
import Derived.WalkSmall
import Derived.Lib.Mul64
import Derived.Laws.Bits64b
import Derived.Laws.ShiftsVar
import Derived.Deep.OwnRows
import Derived.Laws.AppendOwn
namespace Go.Proofs.YbulkcjdgDoor
open Go.RowKit
set_option linter.unusedVariables false
set_option linter.unusedSimpArgs false

theorem maskN (a : Nat) (ha : a < 18446744073709551616) : bits .and .u64 (a : Int) 4294967295 = ((a % 4294967296 : Nat) : Int) := by
  have h := bits_and_u64_nat a 4294967295 ha (by omega)
  have e : a &&& 4294967295 = a % 4294967296 := Nat.and_two_pow_sub_one_eq_mod a 32
  rw [e] at h
  exact h
theorem divN (a : Nat) : (a : Int) / 4294967296 = ((a / 4294967296 : Nat) : Int) := by omega
theorem mulN (a b : Nat) : (a : Int) * (b : Int) = ((a * b : Nat) : Int) := (Int.natCast_mul a b).symm
theorem addN (a b : Nat) : (a : Int) + (b : Int) = ((a + b : Nat) : Int) := (Int.natCast_add a b).symm
theorem wrapN (a : Nat) (ha : a < 18446744073709551616) : IntKind.u64.wrap (a : Int) = (a : Int) := by rw [IntKind.wrap_u64]; omega
theorem wrapM (a : Nat) : IntKind.u64.wrap (a : Int) = ((a % 18446744073709551616 : Nat) : Int) := by rw [IntKind.wrap_u64]; omega

set_option maxHeartbeats 1000000 in
set_option maxRecDepth 100000 in
theorem mul64 (x y : Nat) (hx : x < 18446744073709551616) (hy : y < 18446744073709551616) (w : World) :
    Calls Ybad.prog 17 #[.int .u64 x, .int .u64 y] w fun e w' => e = .returned (.tuple #[.int .u64 ((x * y / 18446744073709551616 : Nat) : Int), .int .u64 ((x * y % 18446744073709551616 : Nat) : Int)]) ∧ w' = w := by
  obtain ⟨bd, bt, bw, hhi⟩ := Lib.mul64_hi x y hx hy
  have ba := Lib.half_mul_le (a := x / 4294967296) (b := y / 4294967296) (by omega) (by omega)
  have bb := Lib.half_mul_le (a := x / 4294967296) (b := y % 4294967296) (by omega) (by omega)
  have bc := Lib.half_mul_le (a := x % 4294967296) (b := y / 4294967296) (by omega) (by omega)
  have ba' : x / 4294967296 * (y / 4294967296) < 18446744073709551616 := by omega
  have bb' : x / 4294967296 * (y % 4294967296) < 18446744073709551616 := by omega
  have bc' : x % 4294967296 * (y / 4294967296) < 18446744073709551616 := by omega
  have bh1 : x / 4294967296 * (y / 4294967296) + (x / 4294967296 * (y % 4294967296) + x % 4294967296 * (y % 4294967296) / 4294967296) / 4294967296 < 18446744073709551616 := by omega
  have bh : x / 4294967296 * (y / 4294967296) + (x / 4294967296 * (y % 4294967296) + x % 4294967296 * (y % 4294967296) / 4294967296) / 4294967296 + ((x / 4294967296 * (y % 4294967296) + x % 4294967296 * (y % 4294967296) / 4294967296) % 4294967296 + x % 4294967296 * (y / 4294967296)) / 4294967296 < 18446744073709551616 := by omega
  go_enter Ybad.func17, Ybad.ntmps17
  go_wp2
  simp only [maskN x hx, maskN y hy, divN, mulN, addN, wrapN _ bd, wrapN _ bb', wrapN _ bt, maskN _ bt, wrapN _ bc', wrapN _ bw, wrapN _ ba', wrapN _ bh1, wrapN _ bh, wrapM (x * y)]
  rw [hhi]
  go_ret2
  exact ⟨rfl, rfl⟩

/-- Only blocks in S and new ones have turned. -/
structure Chg (S : Nat → Prop) (w w' : World) : Prop where
  os : w'.os = w.os
  tape : w'.tape = w.tape
  output : w'.output = w.output
  size : w.heap.size ≤ w'.heap.size
  block : ∀ k, k < w.heap.size → ¬ S k → w'.heap[k]? = w.heap[k]?
/-- There are at most new blocks. -/
abbrev New (w w' : World) : Prop := Chg (fun _ => False) w w'
theorem Chg.refl (S : Nat → Prop) (w : World) : Chg S w w := ⟨rfl, rfl, rfl, Nat.le_refl _, fun _ _ _ => rfl⟩
theorem Chg.trans {S T : Nat → Prop} {w w' w'' : World} (h : Chg S w w') (k : Chg T w' w'') (hT : ∀ b, b < w.heap.size → T b → S b) : Chg S w w'' :=
  ⟨k.os.trans h.os, k.tape.trans h.tape, k.output.trans h.output, Nat.le_trans h.size k.size, fun b hb hn => (k.block b (Nat.lt_of_lt_of_le hb h.size) fun t => hn (hT b hb t)).trans (h.block b hb hn)⟩
theorem New.trans {w w' w'' : World} (h : New w w') (k : New w' w'') : New w w'' := Chg.trans h k fun _ _ f => f
theorem Chg.alloc {S : Nat → Prop} {w w' : World} (h : Chg S w w') (o : Obj) : Chg S w (w'.alloc o) :=
  ⟨h.os, h.tape, h.output, Nat.le_trans h.size (by rw [Go.Deep.nblk_alloc]; omega), fun k hk hn => (Go.Deep.blk_alloc_lt _ _ _ (Nat.lt_of_lt_of_le hk h.size)).trans (h.block k hk hn)⟩
theorem Chg.setCell {S : Nat → Prop} {w w' : World} (h : Chg S w w') {p : Addr} (hp : S p.block ∨ w.heap.size ≤ p.block) (v : Value) : Chg S w (w'.setCell p v) := by
  refine ⟨h.os, h.tape, h.output, by rw [Go.Deep.nblk_setCell]; exact h.size, fun k hk hn => ?_⟩
  rw [Go.Deep.blk_setCell_other _ _ _ _ (fun e => ?_)]
  · exact h.block k hk hn
  · rcases hp with hp | hp
    · exact hn (e ▸ hp)
    · omega
theorem Chg.drew {S : Nat → Prop} {w w' : World} (h : Chg S w w') : Chg S w w'.drew := ⟨h.os, h.tape, h.output, h.size, h.block⟩
theorem Chg.drewN {S : Nat → Prop} {w w' : World} (h : Chg S w w') (n : Nat) : Chg S w (w'.drewN n) := ⟨h.os, h.tape, h.output, h.size, h.block⟩
theorem Chg.below {S : Nat → Prop} {w w' : World} {B : Nat} (h : Chg S w w') (hB : ∀ k, S k → B ≤ k) (hs : B ≤ w.heap.size) : Below B w w' :=
  ⟨h.os, h.tape, h.output, h.size, fun k hk => h.block k (Nat.lt_of_lt_of_le hk hs) fun hS => by have := hB k hS; omega⟩
theorem Chg.cell {S : Nat → Prop} {w w' : World} (h : Chg S w w') {p : Addr} {v : Value} (hp : w.cell? p = some v) (hn : ¬ S p.block) : w'.cell? p = some v := by
  have hlt : p.block < w.heap.size := by
    apply Classical.byContradiction
    intro hn
    have : w.heap[p.block]? = none := Array.getElem?_eq_none (by omega)
    simp [World.cell?, this] at hp
  exact (World.cell?_of_block (h.block _ hlt hn)).trans hp
theorem hidden {p : Prop} (h : p) : Hid p := h

/-- The estimate's order. -/
def less (a b c d : Nat) : Bool := decide (a < c) || (decide (a = c) && decide (b < d))
set_option maxRecDepth 100000 in
theorem less_any (a b c d : Nat) (w : World) : Calls Ybad.prog 6 #[.agg #[.int .u64 a, .int .u64 b], .agg #[.int .u64 c, .int .u64 d]] w fun e w' => e = .returned (.bool (less a b c d)) ∧ New w w' := by
  by_cases h1 : a < c
  · have hd : decide ((a : Int) < c) = true := by simpa using h1
    have hl : less a b c d = true := by simp [less, h1]
    rw [hl]
    go_enter Ybad.func6, Ybad.ntmps6
    go_wp2_with fail
    go_ret
    exact ⟨rfl, ((Chg.refl _ w).alloc _).alloc _⟩
  · have hd : decide ((a : Int) < c) = false := by simpa using h1
    by_cases h2 : a = c
    · subst h2
      by_cases h3 : b < d
      · have hd3 : decide ((b : Int) < d) = true := by simpa using h3
        have hl : less a b a d = true := by simp [less, h3]
        rw [hl]
        go_enter Ybad.func6, Ybad.ntmps6
        go_wp2_with fail
        go_ret
        exact ⟨rfl, ((Chg.refl _ w).alloc _).alloc _⟩
      · have hd3 : decide ((b : Int) < d) = false := by simpa using h3
        have hl : less a b a d = false := by simp [less, h3]
        rw [hl]
        go_enter Ybad.func6, Ybad.ntmps6
        go_wp2_with fail
        go_ret
        exact ⟨rfl, ((Chg.refl _ w).alloc _).alloc _⟩
    · have hd2 : decide ((a : Int) = c) = false := by simp; omega
      have hl : less a b c d = false := by simp [less, h1, h2]
      rw [hl]
      go_enter Ybad.func6, Ybad.ntmps6
      go_wp2_with fail
      go_ret
      exact ⟨rfl, ((Chg.refl _ w).alloc _).alloc _⟩
end Go.Proofs.YbulkcjdgDoor
