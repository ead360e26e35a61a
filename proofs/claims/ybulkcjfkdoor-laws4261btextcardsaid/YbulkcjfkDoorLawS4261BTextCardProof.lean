import Derived.Test.YbulkcjfkDoorU9
import Derived.Test.YbulkcjfkDoorRows
import Derived.Test.YbulkcjfkDoorCards
import Derived.Test.YbulkcjfkDoorTie
import Derived.SevenTiedAt
import Derived.ProofKit
import Derived.LaidMore
import Derived.OpenShut
import Derived.Stop.Joined
import Derived.ShutString
import Derived.ChangeOld
import Derived.Below
import Derived.Deep.Slices
namespace Go.Proofs.YbulkcjfkDoor.lawS4261BText
open Go.ChangeShapes Go.WideShapes Go.ChangeAt Go.WideMaps Go.WideElems Go.RowKit
open Go.ChangeMaps (open_string shut_string)
set_option linter.unusedVariables false
set_option linter.unusedSimpArgs false

theorem own : ownKnob Ybad.prog.godebug = none := by kernel_rfl
theorem laidOut : laidOutB Ybad.prog = true := by kernel_rfl
/-- The door's own heap meets the condition. -/
theorem door_met (os : Os) (args : Array Value) : laidMetH Ybad.prog Rows.lawS4261BTextRow.laid ((World.doorLaid Ybad.prog 400 os).forCall (fun _ _ => 0) ⟨#[], args, []⟩).memory :=
  laidMetH_of_parts3 (fuel := 8) (laidMet_of_run' 8 (by kernel_rfl) (by kernel_rfl)) (by kernel_rfl) (by kernel_rfl)
theorem o_add (b o i : Nat) : (⟨b, o, none⟩ : Addr).add i = ⟨b, o + i, none⟩ := by
  by_cases h : i = 0 <;> simp [Addr.add, h]

set_option maxRecDepth 100000 in
theorem lifted (os : Os) (started : os.Started) (H : Type) (enc : TypeId × Value → H) :
    ReturnsInHanded {} Ybad.checked os 4 .any (fun w args => (Rows.lawS4261BTextSpec.pre enc Ybad.prog Ybad.f4 [] false w args ∧ laidMetH Ybad.prog Rows.lawS4261BTextRow.laid w) ∧ sizedMet enc Ybad.prog Ybad.f4 (OpenSpec.ofChange Rows.lawS4261BTextSpec) false w args)
      (Rows.lawS4261BTextSpec.post enc Ybad.prog Ybad.f4 false true false false) := by
  refine returnsInHanded_of_change_and (C := Ybad.checked) (X := fun w _ => laidMetH Ybad.prog Rows.lawS4261BTextRow.laid w) (fun _ _ _ hh h => h.of_heap hh) own started (by kernel_rfl) Ybad.func4
    (ChangeSpec.witness_shaped (enc := enc) (C := Ybad.checked) (os := os) (X := fun w _ => laidMetH Ybad.prog Rows.lawS4261BTextRow.laid w) false (World.doorLaid Ybad.prog 400 os) #[.string ⟨#[]⟩, .string ⟨#[]⟩, .string ⟨#[]⟩, .string ⟨#[]⟩, .string ⟨#[]⟩, .string ⟨#[]⟩, .string ⟨#[]⟩, .string ⟨#[]⟩, .int .u8 0, .bool false, .bool false, .bool false] 8 rfl (World.shaped_of_RefB (by kernel_rfl) (by kernel_rfl)) (by kernel_rfl) (by kernel_rfl) (by kernel_rfl) (door_met os _)) ?_
  intro W base args ds gs before hval0 hW _ _ hL _
  have hval : ∀ (j : Nat) t v, Ybad.f4.params[j]? = some t → args[j]? = some v → Value.okWide Ybad.prog W .any base t v := hval0
  have hW' := hW
  obtain ⟨p, q, hA0, hV, rfl, hfz, hnd⟩ := hW
  have hA : DataW.TrodAll enc Ybad.prog W 0 (fun _ => true) true Ybad.f4.params.toList args.toList ds p := hA0
  rw [Ybad.params4] at hA hval
  obtain ⟨v0, vs0, d0, ds0, p0, q0, hargs, rfl, rfl, h0, r0⟩ := trodAll_cons hA
  obtain ⟨v1, vs1, d1, ds1, p1, q1, rfl, rfl, rfl, h1, r1⟩ := trodAll_cons r0
  obtain ⟨v2, vs2, d2, ds2, p2, q2, rfl, rfl, rfl, h2, r2⟩ := trodAll_cons r1
  obtain ⟨v3, vs3, d3, ds3, p3, q3, rfl, rfl, rfl, h3, r3⟩ := trodAll_cons r2
  obtain ⟨v4, vs4, d4, ds4, p4, q4, rfl, rfl, rfl, h4, r4⟩ := trodAll_cons r3
  obtain ⟨v5, vs5, d5, ds5, p5, q5, rfl, rfl, rfl, h5, r5⟩ := trodAll_cons r4
  obtain ⟨v6, vs6, d6, ds6, p6, q6, rfl, rfl, rfl, h6, r6⟩ := trodAll_cons r5
  obtain ⟨v7, vs7, d7, ds7, p7, q7, rfl, rfl, rfl, h7, r7⟩ := trodAll_cons r6
  obtain ⟨v8, vs8, d8, ds8, p8, q8, rfl, rfl, rfl, h8, r8⟩ := trodAll_cons r7
  obtain ⟨v9, vs9, d9, ds9, p9, q9, rfl, rfl, rfl, h9, r9⟩ := trodAll_cons r8
  obtain ⟨v10, vs10, d10, ds10, p10, q10, rfl, rfl, rfl, h10, r10⟩ := trodAll_cons r9
  obtain ⟨v11, vs11, d11, ds11, p11, q11, rfl, rfl, rfl, h11, r11⟩ := trodAll_cons r10
  obtain ⟨rfl, rfl, rfl⟩ := trodAll_nil r11
  obtain rfl : args = #[v0, v1, v2, v3, v4, v5, v6, v7, v8, v9, v10, v11] := by cases args; simp_all
  obtain ⟨rfl, rfl⟩ := trodVars_none hV
  obtain ⟨s0, rfl, rfl, rfl, ws0⟩ := open_string Ybad.underlying9 (hval 0 9 v0 rfl rfl) h0
  obtain ⟨s1, rfl, rfl, rfl, ws1⟩ := open_string Ybad.underlying9 (hval 1 9 v1 rfl rfl) h1
  obtain ⟨s2, rfl, rfl, rfl, ws2⟩ := open_string Ybad.underlying9 (hval 2 9 v2 rfl rfl) h2
  obtain ⟨s3, rfl, rfl, rfl, ws3⟩ := open_string Ybad.underlying9 (hval 3 9 v3 rfl rfl) h3
  obtain ⟨s4, rfl, rfl, rfl, ws4⟩ := open_string Ybad.underlying9 (hval 4 9 v4 rfl rfl) h4
  obtain ⟨s5, rfl, rfl, rfl, ws5⟩ := open_string Ybad.underlying9 (hval 5 9 v5 rfl rfl) h5
  obtain ⟨s6, rfl, rfl, rfl, ws6⟩ := open_string Ybad.underlying9 (hval 6 9 v6 rfl rfl) h6
  obtain ⟨s7, rfl, rfl, rfl, ws7⟩ := open_string Ybad.underlying9 (hval 7 9 v7 rfl rfl) h7
  obtain ⟨lb, rfl, rfl, rfl, wl⟩ := open_int Ybad.underlying5 (hval 8 5 v8 rfl rfl) h8
  obtain ⟨b9, rfl, rfl, rfl⟩ := open_bool Ybad.underlying4 (hval 9 4 v9 rfl rfl) h9
  obtain ⟨b10, rfl, rfl, rfl⟩ := open_bool Ybad.underlying4 (hval 10 4 v10 rfl rfl) h10
  obtain ⟨b11, rfl, rfl, rfl⟩ := open_bool Ybad.underlying4 (hval 11 4 v11 rfl rfl) h11
  clear hA0 hval0
  have hcall : Calls Ybad.prog 4 #[.string s0, .string s1, .string s2, .string s3, .string s4, .string s5, .string s6, .string s7, .int .u8 lb, .bool b9, .bool b10, .bool b11] W fun e w' => e = .returned (.bool true) ∧ Below W.heap.size W w' := by
    unfold maxLen at ws0 ws1 ws2 ws3 ws4 ws5 ws6 ws7
    have hwl : 0 ≤ lb ∧ lb ≤ 255 := by
      have := wl
      simp [Lit.wf] at this
      have e1 : IntKind.u8.min = 0 := by decide
      have e2 : IntKind.u8.max = 255 := by decide
      omega
    exact law_all s0 s1 s2 s3 s4 s5 s6 s7 lb hwl.1 hwl.2 b9 b10 b11 W ws0 ws1 ws2 ws3 ws4 ws5 ws6 ws7
  refine hcall.mono fun e W' ⟨he, bel⟩ => ?_
  subst he
  exact ⟨_, rfl, _, _, _, [], _, [], hW', trodAll_mk1 (shut_bool Ybad.underlying4 _), (trodAll_cons_mk (shut_string Ybad.underlying9 ws0) (trodAll_cons_mk (shut_string Ybad.underlying9 ws1) (trodAll_cons_mk (shut_string Ybad.underlying9 ws2) (trodAll_cons_mk (shut_string Ybad.underlying9 ws3) (trodAll_cons_mk (shut_string Ybad.underlying9 ws4) (trodAll_cons_mk (shut_string Ybad.underlying9 ws5) (trodAll_cons_mk (shut_string Ybad.underlying9 ws6) (trodAll_cons_mk (shut_string Ybad.underlying9 ws7) (trodAll_cons_mk (shut_int Ybad.underlying5 wl) (trodAll_cons_mk (shut_bool Ybad.underlying4 _) (trodAll_cons_mk (shut_bool Ybad.underlying4 _) (trodAll_cons_mk (shut_bool Ybad.underlying4 _) trodAll_mk0)))))))))))), rfl, bel.frame _, fun h => by cases h⟩

theorem over : Rows.LawS4261BTextSaid :=
  OpenClaim.holds_of_wide 4 Ybad.f4 rfl rfl rfl rfl rfl rfl rfl ⟨rfl, rfl, rfl, rfl, rfl⟩ rfl rfl rfl rfl rfl (by kernel_rfl) Ybad.func4 (by kernel_rfl)
    (of_decide_eq_true (by kernel_rfl)) (by unfold Func.isWrapper; first | (rw [if_pos (by decide +kernel)]; kernel_rfl) | (rw [if_neg (by decide +kernel)]; exact ⟨rfl, rfl⟩))
    (fun os started H enc _ => lifted os started H enc)

/-- ████ THE STATEMENT ████ -/
theorem proved : Rows.LawS4261BTextCardSaid :=
  Claim7.holds_tied_plain_at .later [] [.sentinel] true (true, "6f03734fcbd0e76bfef4efba1bb8d56e81bd1676a35d8900c86ab6056b8d401a") false
    over (fun _ h => by cases h) (by kernel_rfl) (fun _ h => by cases h) lawS4261BText_row_tie rfl ⟨rfl, rfl⟩ (by kernel_rfl) rfl
    (fun f fn hf hfn => by
      obtain rfl : f = 4 := Option.some.inj ((show Ybad.prog.funcNamed "example.com/wireloom/wireloom/internal/gen.LawS4261BText" = some 4 by kernel_rfl).symm.trans hf) |>.symm
      obtain rfl : fn = Ybad.f4 := (Option.some.inj (Ybad.func4.symm.trans hfn)).symm
      exact ⟨by kernel_rfl, fun j t ht => by
        rw [Ybad.params4] at ht
        have h3 : t = 9 ∨ t = 5 ∨ t = 4 := by
          rcases j with _ | _ | _ | _ | _ | _ | _ | _ | _ | _ | _ | _ | j
          · left; simpa using ht.symm
          · left; simpa using ht.symm
          · left; simpa using ht.symm
          · left; simpa using ht.symm
          · left; simpa using ht.symm
          · left; simpa using ht.symm
          · left; simpa using ht.symm
          · left; simpa using ht.symm
          · right; left; simpa using ht.symm
          · right; right; simpa using ht.symm
          · right; right; simpa using ht.symm
          · right; right; simpa using ht.symm
          · simp at ht
        rcases h3 with rfl | rfl | rfl
        · exact (show Ybad.prog.wantsStandIn 9 = false by kernel_rfl)
        · exact (show Ybad.prog.wantsStandIn 5 = false by kernel_rfl)
        · exact (show Ybad.prog.wantsStandIn 4 = false by kernel_rfl)⟩)
    (by kernel_rfl)
end Go.Proofs.YbulkcjfkDoor.lawS4261BText
