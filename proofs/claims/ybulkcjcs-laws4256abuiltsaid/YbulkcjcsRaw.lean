import Derived.Test.YbulkcjcsCheck
import Derived.OpenShut
namespace Go.Proofs.Ybulkcjcs
open Go.RowKit

def IsRow (k : IntKind) (w : World) (a : Option Addr) (len cap : Nat) (zs : List Int) : Prop :=
  (a = none ∧ len = 0 ∧ cap = 0 ∧ zs = []) ∨
  ∃ x, a = some x ∧ len ≤ cap ∧ cap ≤ maxLen ∧ zs.length = cap ∧ (∀ i, i < zs.length → w.cell? (x.add i) = some (.int k (zs.getD i 0))) ∧ ∀ n ∈ zs, (Lit.int k n).wf = true

theorem plain_add (b o i : Nat) : (⟨b, o, none⟩ : Addr).add i = ⟨b, o + i, none⟩ := by
  by_cases h : i = 0 <;> simp [Addr.add, h]
theorem lt_of_cell {w : World} {p : Addr} {v : Value} (h : w.cell? p = some v) : p.block < w.heap.size := by
  apply Classical.byContradiction
  intro hn
  have : w.heap[p.block]? = none := Array.getElem?_eq_none (by omega)
  simp [World.cell?, this] at h

/-- What a row is good for: nothing is in it; or it has its plain address, with its cells. -/
theorem IsRow.told {k : IntKind} {w : World} {a : Option Addr} {len cap : Nat} {zs : List Int} (h : IsRow k w a len cap zs) :
    len = 0 ∨ ∃ b off, a = some ⟨b, off, none⟩ ∧ b < w.heap.size ∧ (zs.take len).length = len ∧ (∀ j, j < len → w.cell? ⟨b, off + j, none⟩ = some (.int k ((zs.take len).getD j 0))) ∧ ∀ n ∈ zs.take len, (Lit.int k n).wf = true := by
  rcases h with ⟨_, h, _, _⟩ | ⟨x, rfl, hl, hm, hz, hc, hw⟩
  · exact .inl h
  by_cases h0 : len = 0
  · exact .inl h0
  refine .inr ?_
  obtain ⟨b, off, spot⟩ := x
  have hspot : spot = none := by simpa [Addr.add] using World.cell?_spot (hc 0 (by omega))
  subst hspot
  have hc' : ∀ j, j < len → w.cell? ⟨b, off + j, none⟩ = some (.int k (zs.getD j 0)) := fun j hj => by rw [← plain_add]; exact hc j (by omega)
  refine ⟨b, off, rfl, lt_of_cell (hc' 0 (by omega)), by simp; omega, fun j hj => ?_, fun n hn => hw n (List.mem_of_mem_take hn)⟩
  rw [hc' j hj]
  simp [hj]

/-- zzs4256acheck at whatever row. -/
theorem check_row {w : World} {a : Option Addr} {len cap : Nat} {zs : List Int} (h : IsRow .u8 w a len cap zs) (hn : len ≤ 65536) (i : Nat) (hi : i ≤ 65540) :
    Calls Yba.prog 5 #[.slice a len cap, .int .i64 i] w fun e w' => e = .returned (.bool true) ∧ Below w.heap.size w w' := by
  rcases h.told with rfl | ⟨b, off, rfl, hb, hz, hc, _⟩
  · exact check_none a cap i hi w
  · exact check_at b off len cap (zs.take len) hz hn i hi w hb hc

theorem rem_nat (x : Int) (n : Nat) : ∃ j : Nat, x % ((n : Int) + 3) = j ∧ j < n + 3 :=
  ⟨(x % ((n : Int) + 3)).toNat, by have := Int.emod_nonneg x (b := (n : Int) + 3) (by omega); omega, by have := Int.emod_nonneg x (b := (n : Int) + 3) (by omega); have := Int.emod_lt_of_pos x (b := (n : Int) + 3) (by omega); omega⟩

set_option maxHeartbeats 400000 in
theorem raw_walk (a0 : Option Addr) (len0 cap0 : Nat) (z0 : List Int) (a1 : Int) (w : World) (w0 : IsRow .u8 w a0 len0 cap0 z0) (w1 : (Lit.int .u64 a1).wf = true) :
    Calls Yba.prog 3 #[.slice a0 len0 cap0, .int .u64 a1] w fun e w' => e = .returned (.bool true) ∧ Below w.heap.size w w' := by
  obtain ⟨bd0, bd1⟩ := bounds_u64 w1
  clear w1
  have HR : Hid (IsRow .u8 w a0 len0 cap0 z0) := w0
  by_cases hbig : 65536 < len0
  · have hm : len0 ≤ 9223372036854775807 := by
      rcases w0 with ⟨_, h, _, _⟩ | ⟨_, _, h1, h2, _⟩
      · omega
      · unfold maxLen at h2; omega
    clear w0
    go_enter Yba.func3, Yba.ntmps3
    go_wp2_with fail
    go_ret
    exact ⟨rfl, Below.refl _ _⟩
  have hle : len0 ≤ 65536 := by omega
  clear hbig w0
  by_cases hge : (len0 : Int) + 3 ≤ a1
  · obtain ⟨j, hj, hjl⟩ := rem_nat a1 len0
    have HJ : Hid (a1 % ((len0 : Int) + 3) = j) := hj
    have hj0 : 0 ≤ a1 % ((len0 : Int) + 3) := by omega
    have hj1 : a1 % ((len0 : Int) + 3) < 65540 := by omega
    clear hj
    go_enter Yba.func3, Yba.ntmps3
    go_wp2_with fail
    rw [HJ.out]
    refine (check_row HR.out hle j (by omega)).mono ?_
    rintro e w' ⟨rfl, hB⟩
    go_wp2_with fail
    go_ret
    exact ⟨rfl, hB⟩
  · obtain ⟨j, rfl⟩ := Int.eq_ofNat_of_zero_le bd0
    go_enter Yba.func3, Yba.ntmps3
    go_wp2_with fail
    refine (check_row HR.out hle j (by omega)).mono ?_
    rintro e w' ⟨rfl, hB⟩
    go_wp2_with fail
    go_ret
    exact ⟨rfl, hB⟩
end Go.Proofs.Ybulkcjcs
