/- The law 'node.LawS4257AScript': the frame after the seat's shells; the walk lies in YbulkcjdgScript. -/
import Derived.Test.YbulkcjdgRows
import Derived.WalkKit
import Derived.ProofKit
import Derived.OpenShut
import Derived.ShutString
import Derived.ChangeOld
import Derived.Below
import Derived.Deep.Slices
import Derived.Test.YbulkcjdgScript
namespace Go.Proofs.Ybulkcjdg.lawS4257AScript
open Go.ChangeShapes Go.WideShapes Go.ChangeAt Go.RowKit
open Go.ChangeMaps (open_string shut_string)
set_option linter.unusedVariables false

theorem own : ownKnob Yba.prog.godebug = none := by kernel_rfl
theorem laidOut : laidOutB Yba.prog = true := by kernel_rfl
theorem cells27 : Yba.prog.cellsOf 27 = 3 := by kernel_rfl
theorem cells5 : Yba.prog.cellsOf 5 = 1 := by kernel_rfl
theorem cells3 : Yba.prog.cellsOf 3 = 1 := by kernel_rfl
theorem lt_of_cell {w : World} {p : Addr} {v : Value} (h : w.cell? p = some v) : p.block < w.heap.size := by
  apply Classical.byContradiction
  intro hn
  have : w.heap[p.block]? = none := Array.getElem?_eq_none (by omega)
  simp [World.cell?, this] at h

theorem o_ops {H : Type} {enc : TypeId × Value → H} {W : World} {base : Nat} {held : Bool} {a : Option Addr} {len cap : Nat} {d : DataW H} {ps : List MemPlace}
    (h : DataW.Trod enc Yba.prog W base (fun _ => true) held 22 (.slice a len cap) d ps) : ∃ f, OpsAt W W.heap.size a len f := by
  obtain ⟨fuel, hf⟩ := h
  rcases Deep.open_slice Yba.underlying22 hf with ⟨hcs, _⟩ | ⟨x, l, c, m, n, D, Pl, hcs, _, hl, hm, hmm, _, hcell⟩
  · simp [Value.cells] at hcs
    obtain ⟨rfl, rfl, rfl⟩ := hcs
    exact ⟨fun _ => (0, 0, 0), .inl rfl⟩
  · simp [Value.cells] at hcs
    obtain ⟨rfl, rfl, rfl⟩ := hcs
    have hm' : m = cap := by simpa using hmm
    subst hm'
    rw [cells27] at hcell
    by_cases h0 : len = 0
    · exact ⟨fun _ => (0, 0, 0), .inl h0⟩
    have hone : ∀ i, i < len → ∃ t : Nat × Nat × Int, W.cell? ((x.add (i * 3)).add 0) = some (.int .u8 t.1) ∧ W.cell? ((x.add (i * 3)).add 1) = some (.int .u8 t.2.1) ∧ W.cell? ((x.add (i * 3)).add 2) = some (.int .i64 t.2.2) ∧ t.1 ≤ 255 ∧ t.2.1 ≤ 255 := by
      intro i hi
      obtain ⟨cs', h1, h2⟩ := hcell i (by omega)
      obtain ⟨_, hlen, hat⟩ := World.cells?_some h1
      obtain ⟨xs, n', _, _, _, hxl, hfs⟩ := DataW.trod_struct Yba.underlying27 h2
      match cs', hlen with
      | [v0, v1, v2], _ =>
        match xs, hxl with
        | [y0, y1, y2], _ =>
          have k0 := hfs 0 _ rfl
          have k1 := hfs 1 _ rfl
          have k2 := hfs 2 _ rfl
          have k0 : DataW.trod enc Yba.prog W base (fun _ => true) held n' 5 ([v0, v1, v2].take (Yba.prog.cellsOf 5)) = some y0 := k0
          have k1 : DataW.trod enc Yba.prog W base (fun _ => true) held n' 5 ([v1, v2].take (Yba.prog.cellsOf 5)) = some y1 := k1
          have k2 : DataW.trod enc Yba.prog W base (fun _ => true) held n' 3 ([v2].take (Yba.prog.cellsOf 3)) = some y2 := k2
          rw [cells5] at k0 k1
          rw [cells3] at k2
          have k0 : DataW.trod enc Yba.prog W base (fun _ => true) held n' 5 [v0] = some y0 := k0
          have k1 : DataW.trod enc Yba.prog W base (fun _ => true) held n' 5 [v1] = some y1 := k1
          have k2 : DataW.trod enc Yba.prog W base (fun _ => true) held n' 3 [v2] = some y2 := k2
          obtain ⟨n0, e0, _, w0⟩ := DataW.trod_int Yba.underlying5 k0
          obtain ⟨n1, e1, _, w1⟩ := DataW.trod_int Yba.underlying5 k1
          obtain ⟨n2, e2, _, w2⟩ := DataW.trod_int Yba.underlying3 k2
          simp only [List.cons.injEq, and_true] at e0 e1 e2
          subst e0 e1 e2
          have b0 := bounds_u8 w0
          have b1 := bounds_u8 w1
          refine ⟨(n0.toNat, n1.toNat, n2), ?_, ?_, ?_, by simp only; omega, by simp only; omega⟩
          · rw [hat 0 (by omega)]; simp [Int.toNat_of_nonneg b0.1]
          · rw [hat 1 (by omega)]; simp [Int.toNat_of_nonneg b1.1]
          · rw [hat 2 (by omega)]; simp
    obtain ⟨b, off, spot⟩ := x
    have hspot : spot = none := by
      obtain ⟨t, h1, _⟩ := hone 0 (by omega)
      simpa [Addr.add] using World.cell?_spot h1
    subst hspot
    have hone2 : ∀ i, i < len → ∃ t : Nat × Nat × Int, W.cell? ⟨b, off + i * 3, none⟩ = some (.int .u8 t.1) ∧ W.cell? ⟨b, off + i * 3 + 1, none⟩ = some (.int .u8 t.2.1) ∧ W.cell? ⟨b, off + i * 3 + 2, none⟩ = some (.int .i64 t.2.2) ∧ t.1 ≤ 255 ∧ t.2.1 ≤ 255 := by
      intro i hi
      obtain ⟨t, h1, h2, h3, h4⟩ := hone i hi
      rw [Addr.add_lit, Addr.add_lit] at h1 h2 h3
      exact ⟨t, h1, h2, h3, h4⟩
    refine ⟨fun i => if h : i < len then Classical.choose (hone2 i h) else (0, 0, 0), .inr ⟨b, off, rfl, ?_, ?_⟩⟩
    · obtain ⟨t, h1, _⟩ := hone2 0 (by omega)
      exact lt_of_cell h1
    · intro q hq
      simp only [dif_pos hq]
      exact Classical.choose_spec (hone2 q hq)

set_option maxRecDepth 100000 in
theorem short (w : World) (v0 : Value) (ia : Option Addr) (il ic : Nat) (hil : 1024 < il) :
    Calls Yba.prog 3 #[v0, .slice ia il ic] w fun e w' => e = .returned (.bool true) ∧ Below w.heap.size w w' := by
  have hdil : decide ((1024 : Int) < (il : Int)) = true := by simp; omega
  go_enter Yba.func3, Yba.ntmps3
  go_wp2_with fail
  go_ret
  exact ⟨rfl, Below.refl _ _⟩

set_option maxRecDepth 100000 in
theorem lifted (os : Os) (started : os.Started) (H : Type) (enc : TypeId × Value → H) :
    ReturnsInHanded {} Yba.checked os 3 .any (Rows.lawS4257AScriptSpec.pre6 enc Yba.prog Yba.f3 Rows.lawS4257AScriptRow.domain false) (Rows.lawS4257AScriptSpec.post enc Yba.prog Yba.f3 false true false false) := by
  refine returnsInHanded_of_change (C := Yba.checked) own started (by kernel_rfl) Yba.func3
    (ChangeSpec.witness6 (enc := enc) (C := Yba.checked) false ⟨#[], #[.int .u8 0, .slice none 0 0], []⟩ 8 (by kernel_rfl) (by kernel_rfl) (by kernel_rfl) (by kernel_rfl)) ?_
  intro W base args ds gs before hval0 hW hcnd _
  have hval : ∀ (j : Nat) t v, Yba.f3.params[j]? = some t → args[j]? = some v → Value.okWide Yba.prog W .any base t v := hval0
  have hW' := hW
  obtain ⟨p, q, hA0, hV, rfl, hfz, hnd⟩ := hW
  have hA : DataW.TrodAll enc Yba.prog W 0 (fun _ => true) true Yba.f3.params.toList args.toList ds p := hA0
  rw [Yba.params3] at hA hval
  obtain ⟨v0, vs0, d0, ds0, p0, q0, hargs, rfl, rfl, h0, r0⟩ := trodAll_cons hA
  obtain ⟨v1, vs1, d1, ds1, p1, q1, rfl, rfl, rfl, h1, r1⟩ := trodAll_cons r0
  obtain ⟨rfl, rfl, rfl⟩ := trodAll_nil r1
  obtain rfl : args = #[v0, v1] := by cases args; simp_all
  obtain ⟨rfl, rfl⟩ := trodVars_none hV
  obtain ⟨a0, rfl, rfl, rfl, w0⟩ := open_int Yba.underlying5 (hval 0 5 v0 rfl rfl) h0
  obtain ⟨a1, len1, cap1, rfl⟩ := okWide_slice Yba.underlying22 (hval 1 22 v1 rfl rfl)
  have lt1 : ∀ x ∈ p1, x.block < W.heap.size := by obtain ⟨m, hm⟩ := h1; exact DataW.trod_lt m _ _ _ hm
  clear hA0 hval0
  have hcall : Calls Yba.prog 3 #[.int .u8 a0, .slice a1 len1 cap1] W fun e w' => e = .returned (.bool true) ∧ Below W.heap.size W w' := by
    by_cases hil : len1 ≤ 1024
    · obtain ⟨b0, b1⟩ := bounds_u8 w0
      obtain ⟨f, hf⟩ := o_ops h1
      obtain ⟨x0, rfl⟩ : ∃ x : Nat, a0 = x := ⟨a0.toNat, by omega⟩
      exact script_walk W x0 a1 len1 cap1 f (x0 % 8) (by omega) (by omega) (by omega) hil hf
    · exact short W _ a1 len1 cap1 (by omega)
  refine hcall.mono fun e W' ⟨he, bel⟩ => ?_
  subst he
  exact ⟨_, rfl, _, _, _, [], _, [], hW', trodAll_mk1 (shut_bool Yba.underlying4 _), (trodAll_cons_mk (shut_int Yba.underlying5 w0) (trodAll_cons_mk (Below.trod laidOut (by kernel_rfl) (of_decide_eq_true (by kernel_rfl)) h1 bel lt1) trodAll_mk0)), rfl, bel.frame _, fun h => by cases h⟩

theorem over : Rows.lawS4257AScriptRow.holds Yba.pinned (OpenSpec.ofChange Rows.lawS4257AScriptSpec) :=
  OpenClaim.holds_of_wide 3 Yba.f3 rfl rfl rfl rfl rfl rfl rfl ⟨rfl, rfl, rfl, rfl, rfl⟩ rfl rfl rfl rfl rfl (by kernel_rfl) Yba.func3 (by kernel_rfl)
    (of_decide_eq_true (by kernel_rfl)) (by unfold Func.isWrapper; first | (rw [if_pos (by decide +kernel)]; kernel_rfl) | (rw [if_neg (by decide +kernel)]; exact ⟨rfl, rfl⟩))
    (fun os started H enc _ => lifted os started H enc)

/-- ████ THE STATEMENT ████ -/
theorem proved : Rows.LawS4257AScriptSaid := over
end Go.Proofs.Ybulkcjdg.lawS4257AScript
