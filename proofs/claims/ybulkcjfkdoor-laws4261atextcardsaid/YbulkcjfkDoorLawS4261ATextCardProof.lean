import Derived.Test.YbulkcjfkDoorT5
import Derived.Test.YbulkcjfkDoorRows
import Derived.Test.YbulkcjfkDoorCards
import Derived.Test.YbulkcjfkDoorTie
import Derived.SevenTiedAt
import Derived.ProofKit
import Derived.LaidMore
import Derived.OpenShut
import Derived.Stop.Joined
import Derived.ShutString
import Derived.ChangeOld
import Derived.Below
import Derived.Deep.Slices
namespace Go.Proofs.YbulkcjfkDoor.lawS4261AText
open Go.ChangeShapes Go.WideShapes Go.ChangeAt Go.WideMaps Go.WideElems Go.RowKit
open Go.ChangeMaps (open_string shut_string)
set_option linter.unusedVariables false
set_option linter.unusedSimpArgs false

theorem own : ownKnob Ybad.prog.godebug = none := by kernel_rfl
theorem laidOut : laidOutB Ybad.prog = true := by kernel_rfl
/-- The door's own heap meets the condition. -/
theorem door_met (os : Os) (args : Array Value) : laidMetH Ybad.prog Rows.lawS4261ATextRow.laid ((World.doorLaid Ybad.prog 400 os).forCall (fun _ _ => 0) ⟨#[], args, []⟩).memory :=
  laidMetH_of_parts3 (fuel := 8) (laidMet_of_run' 8 (by kernel_rfl) (by kernel_rfl)) (by kernel_rfl) (by kernel_rfl)
theorem o_add (b o i : Nat) : (⟨b, o, none⟩ : Addr).add i = ⟨b, o + i, none⟩ := by
  by_cases h : i = 0 <;> simp [Addr.add, h]

set_option maxRecDepth 100000 in
theorem lifted (os : Os) (started : os.Started) (H : Type) (enc : TypeId × Value → H) :
    ReturnsInHanded {} Ybad.checked os 3 .any (fun w args => (Rows.lawS4261ATextSpec.pre enc Ybad.prog Ybad.f3 [] false w args ∧ laidMetH Ybad.prog Rows.lawS4261ATextRow.laid w) ∧ sizedMet enc Ybad.prog Ybad.f3 (OpenSpec.ofChange Rows.lawS4261ATextSpec) false w args)
      (Rows.lawS4261ATextSpec.post enc Ybad.prog Ybad.f3 false true false false) := by
  refine returnsInHanded_of_change_and (C := Ybad.checked) (X := fun w _ => laidMetH Ybad.prog Rows.lawS4261ATextRow.laid w) (fun _ _ _ hh h => h.of_heap hh) own started (by kernel_rfl) Ybad.func3
    (ChangeSpec.witness_shaped (enc := enc) (C := Ybad.checked) (os := os) (X := fun w _ => laidMetH Ybad.prog Rows.lawS4261ATextRow.laid w) false (World.doorLaid Ybad.prog 400 os) #[.string ⟨#[]⟩, .slice none 0 0] 8 rfl (World.shaped_of_RefB (by kernel_rfl) (by kernel_rfl)) (by kernel_rfl) (by kernel_rfl) (by kernel_rfl) (door_met os _)) ?_
  intro W base args ds gs before hval0 hW _ _ hL _
  have hval : ∀ (j : Nat) t v, Ybad.f3.params[j]? = some t → args[j]? = some v → Value.okWide Ybad.prog W .any base t v := hval0
  have hW' := hW
  obtain ⟨p, q, hA0, hV, rfl, hfz, hnd⟩ := hW
  have hA : DataW.TrodAll enc Ybad.prog W 0 (fun _ => true) true Ybad.f3.params.toList args.toList ds p := hA0
  rw [Ybad.params3] at hA hval
  obtain ⟨v0, vs0, d0, ds0, p0, q0, hargs, rfl, rfl, h0, r0⟩ := trodAll_cons hA
  obtain ⟨v1, vs1, d1, ds1, p1, q1, rfl, rfl, rfl, h1, r1⟩ := trodAll_cons r0
  obtain ⟨rfl, rfl, rfl⟩ := trodAll_nil r1
  obtain rfl : args = #[v0, v1] := by cases args; simp_all
  obtain ⟨rfl, rfl⟩ := trodVars_none hV
  obtain ⟨s, rfl, rfl, rfl, ws⟩ := open_string Ybad.underlying9 (hval 0 9 v0 rfl rfl) h0
  obtain ⟨fa, fl, fc, rfl⟩ := okWide_slice Ybad.underlying22 (hval 1 22 v1 rfl rfl)
  clear hA0 hval0
  have lt1 : ∀ x ∈ p1, x.block < W.heap.size := by obtain ⟨m, hm⟩ := h1; exact DataW.trod_lt m _ _ _ hm
  have hcall : Calls Ybad.prog 3 #[.string s, .slice fa fl fc] W fun e w' => e = .returned (.bool true) ∧ Below W.heap.size W w' := by
    unfold maxLen at ws
    obtain ⟨fuel, hf⟩ := h1
    have k24 : Ybad.prog.cellsOf 24 = 2 := by kernel_rfl
    have k9 : Ybad.prog.cellsOf 9 = 1 := by kernel_rfl
    rcases Deep.open_slice Ybad.underlying22 hf with ⟨hcs, _⟩ | ⟨a, len, cap, m, n, D, Pl, hcs, _, hl, hm, hmm, _, hx⟩
    · simp [Value.cells] at hcs
      obtain ⟨rfl, rfl, rfl⟩ := hcs
      exact law_any s none 0 0 (fun _ => ByteArray.empty) (fun _ => ByteArray.empty) W (.inl rfl) (by omega) ws (fun i hi => absurd hi (by omega))
    · simp [Value.cells] at hcs
      obtain ⟨rfl, rfl, rfl⟩ := hcs
      unfold maxLen at hm
      have hm' : m = fc := by simpa using hmm
      have key : ∀ i, i < m → ∃ y : ByteArray × ByteArray, (W.cell? (a.add (i * 2)) = some (.string y.1) ∧ W.cell? (a.add (i * 2 + 1)) = some (.string y.2)) ∧ y.1.size ≤ maxLen ∧ y.2.size ≤ maxLen := fun i hi => by
        obtain ⟨cs', q1, q2⟩ := hx i hi
        rw [k24] at q1
        obtain ⟨_, hlen, hcell⟩ := World.cells?_some q1
        obtain ⟨y0, y1, n', _, _, u0, u1⟩ := trod_struct2 Ybad.underlying24 q2
        match cs', hlen with
        | [x0, x1], _ =>
          obtain ⟨b0, z0, _, w0⟩ := DataW.trod_string Ybad.underlying9 (show DataW.trod enc Ybad.prog W 0 (fun _ => true) true n' 9 [x0] = some y0 from u0)
          obtain ⟨b1, z1, _, w1⟩ := DataW.trod_string Ybad.underlying9 (show DataW.trod enc Ybad.prog W 0 (fun _ => true) true n' 9 [x1] = some y1 from u1)
          obtain rfl : x0 = .string b0 := by simpa using z0
          obtain rfl : x1 = .string b1 := by simpa using z1
          have g0 := hcell 0 (by omega)
          have g1 := hcell 1 (by omega)
          rw [Deep.add_add] at g0 g1
          exact ⟨(b0, b1), ⟨g0, g1⟩, w0, w1⟩
      obtain ⟨Y, hY⟩ := Deep.choose_lt (α := ByteArray × ByteArray) key
      have hYs : ∀ i, i < fl → (Y i).1.size ≤ 9223372036854775807 ∧ (Y i).2.size ≤ 9223372036854775807 := fun i hi => by
        have := (hY i (by omega)).2
        unfold maxLen at this
        omega
      refine law_any s (some a) fl fc (fun i => (Y i).1) (fun i => (Y i).2) W ?_ (by omega) ws hYs
      by_cases h0' : fl = 0
      · exact .inl h0'
      · obtain ⟨b, off, spot⟩ := a
        have hspot : spot = none := by simpa [Addr.add] using World.cell?_spot (hY 0 (by omega)).1.1
        subst hspot
        have hc : ∀ i, i < fl → W.cell? ⟨b, off + i * 2, none⟩ = some (.string (Y i).1) ∧ W.cell? ⟨b, off + i * 2 + 1, none⟩ = some (.string (Y i).2) := fun i hi => by
          obtain ⟨⟨q1, q2⟩, _⟩ := hY i (by omega)
          rw [o_add] at q1 q2
          exact ⟨q1, by rw [Nat.add_assoc]; exact q2⟩
        refine .inr ⟨b, off, rfl, ?_, hc⟩
        apply Classical.byContradiction
        intro hn
        have h9 := (hc 0 (by omega)).1
        have : W.heap[b]? = none := Array.getElem?_eq_none (by omega)
        simp [World.cell?, this] at h9
  refine hcall.mono fun e W' ⟨he, bel⟩ => ?_
  subst he
  exact ⟨_, rfl, _, _, _, [], _, [], hW', trodAll_mk1 (shut_bool Ybad.underlying4 _), (trodAll_cons_mk (shut_string Ybad.underlying9 ws) (trodAll_cons_mk (Below.trod laidOut (by kernel_rfl) (of_decide_eq_true (by kernel_rfl)) h1 bel lt1) trodAll_mk0)), rfl, bel.frame _, fun h => by cases h⟩

theorem over : Rows.LawS4261ATextSaid :=
  OpenClaim.holds_of_wide 3 Ybad.f3 rfl rfl rfl rfl rfl rfl rfl ⟨rfl, rfl, rfl, rfl, rfl⟩ rfl rfl rfl rfl rfl (by kernel_rfl) Ybad.func3 (by kernel_rfl)
    (of_decide_eq_true (by kernel_rfl)) (by unfold Func.isWrapper; first | (rw [if_pos (by decide +kernel)]; kernel_rfl) | (rw [if_neg (by decide +kernel)]; exact ⟨rfl, rfl⟩))
    (fun os started H enc _ => lifted os started H enc)

/-- ████ THE STATEMENT ████ -/
theorem proved : Rows.LawS4261ATextCardSaid :=
  Claim7.holds_tied_plain_at .later [] [.sentinel] true (true, "6f03734fcbd0e76bfef4efba1bb8d56e81bd1676a35d8900c86ab6056b8d401a") false
    over (fun _ h => by cases h) (by kernel_rfl) (fun _ h => by cases h) lawS4261AText_row_tie rfl ⟨rfl, rfl⟩ (by kernel_rfl) rfl
    (fun f fn hf hfn => by
      obtain rfl : f = 3 := Option.some.inj ((show Ybad.prog.funcNamed "example.com/wireloom/wireloom/internal/gen.LawS4261AText" = some 3 by kernel_rfl).symm.trans hf) |>.symm
      obtain rfl : fn = Ybad.f3 := (Option.some.inj (Ybad.func3.symm.trans hfn)).symm
      exact ⟨by kernel_rfl, fun j t ht => by
        rw [Ybad.params3] at ht
        have h3 : t = 9 ∨ t = 22 := by
          rcases j with _ | _ | j
          · left; simpa using ht.symm
          · right; simpa using ht.symm
          · simp at ht
        rcases h3 with rfl | rfl
        · exact (show Ybad.prog.wantsStandIn 9 = false by kernel_rfl)
        · exact (show Ybad.prog.wantsStandIn 22 = false by kernel_rfl)⟩)
    (by kernel_rfl)
end Go.Proofs.YbulkcjfkDoor.lawS4261AText
