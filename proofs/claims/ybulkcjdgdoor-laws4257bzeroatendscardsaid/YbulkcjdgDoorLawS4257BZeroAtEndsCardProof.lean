import Derived.Test.YbulkcjdgDoorZ15
import Derived.Test.YbulkcjdgDoorRows
import Derived.Test.YbulkcjdgDoorCards
import Derived.Test.YbulkcjdgDoorTie
import Derived.SevenTiedAt
import Derived.ProofKit
import Derived.LaidMore
import Derived.OpenShut
import Derived.Stop.Joined
import Derived.ShutString
import Derived.ChangeOld
import Derived.Below
namespace Go.Proofs.YbulkcjdgDoor.lawS4257BZeroAtEnds
open Go.ChangeShapes Go.WideShapes Go.ChangeAt Go.WideMaps Go.WideElems Go.RowKit
set_option linter.unusedVariables false
set_option linter.unusedSimpArgs false

theorem own : ownKnob Ybad.prog.godebug = none := by kernel_rfl
theorem laidOut : laidOutB Ybad.prog = true := by kernel_rfl
theorem gTab : Ybad.prog.globalNamed "math/bits.deBruijn32tab" = some 0 := by kernel_rfl
theorem tTab : (Ybad.prog.globals[0]?).map (·.type) = some 54 := by kernel_rfl

/-- The door's own heap meets the condition. -/
theorem door_met (os : Os) (args : Array Value) : laidMetH Ybad.prog Rows.lawS4257BZeroAtEndsRow.laid ((World.doorLaid Ybad.prog 400 os).forCall (fun _ _ => 0) ⟨#[], args, []⟩).memory :=
  laidMetH_of_parts3 (fuel := 8) (laidMet_of_run' 8 (by kernel_rfl) (by kernel_rfl)) (by kernel_rfl) (by kernel_rfl)

theorem tab_of {W : World} (h : laidMetH Ybad.prog Rows.lawS4257BZeroAtEndsRow.laid W) : Tab W := by
  rw [MakeChecks.laidMetH_plain _ _ _ (by kernel_rfl)] at h
  obtain ⟨ps, ⟨g0, t0, cs0, f0, p0, q0, hg0, ht0, hv0, hd0, _, _⟩, _, _⟩ := h
  obtain rfl := Option.some.inj (gTab.symm.trans hg0)
  obtain rfl := Option.some.inj (tTab.symm.trans ht0)
  obtain ⟨xs, m1, rfl, hx1, hlen, hn3, hel⟩ := DataW.trod_array Ybad.underlying54 hd0
  simp only [Prod.mk.injEq] at hx1
  have hL : xs.map (·.1) = (List.range 32).map (fun i => DataW.lit (.int .u8 ((tab i : Nat) : Int))) := by
    have h1 := hx1.1
    have h2 : (Rows.laid_math_bits_deBruijn32tab : DataW Unit) = DataW.agg ((List.range 32).map (fun i => DataW.lit (.int .u8 ((tab i : Nat) : Int)))) := rfl
    exact DataW.agg.inj (h1.symm.trans h2)
  intro i hi
  have c5 : Ybad.prog.cellsOf 5 = 1 := by kernel_rfl
  have hcell := World.var?_cell hg0 hv0 i
  have hi2 := hel i hi
  rw [c5, Nat.mul_one] at hi2
  have hxi : xs[i]? = some (xs[i]'(by omega)) := List.getElem?_eq_getElem (by omega)
  rw [hxi] at hi2
  obtain ⟨k, e1, e2, _⟩ := DataW.trod_int Ybad.underlying5 hi2
  have h3 : (xs.map (·.1))[i]? = some (DataW.lit (.int .u8 k)) := by rw [List.getElem?_map, hxi, e2]; rfl
  rw [hL, List.getElem?_map, List.getElem?_range hi] at h3
  have hk : k = (tab i : Nat) := by
    simp only [Option.map_some, Option.some.injEq, DataW.lit.injEq, Lit.int.injEq] at h3
    exact h3.2.symm
  subst hk
  rw [hcell]
  have h4 : (cs0.toList.drop i)[0]? = some (.int .u8 ((tab i : Nat) : Int)) := by
    have := congrArg (fun l => l[0]?) e1
    simpa using this
  rw [List.getElem?_drop, Nat.add_zero] at h4
  simpa using h4

theorem array12 {α : Type} {cs : Array α} (h : cs.size = 12) : ∃ c0 c1 c2 c3 c4 c5 c6 c7 c8 c9 c10 c11, cs = #[c0, c1, c2, c3, c4, c5, c6, c7, c8, c9, c10, c11] := by
  obtain ⟨l⟩ := cs
  match l, h with
  | [c0, c1, c2, c3, c4, c5, c6, c7, c8, c9, c10, c11], _ => exact ⟨c0, c1, c2, c3, c4, c5, c6, c7, c8, c9, c10, c11, rfl⟩
theorem list12 {α : Type} {cs : List α} (h : cs.length = 12) : ∃ c0 c1 c2 c3 c4 c5 c6 c7 c8 c9 c10 c11, cs = [c0, c1, c2, c3, c4, c5, c6, c7, c8, c9, c10, c11] := by
  match cs, h with
  | [c0, c1, c2, c3, c4, c5, c6, c7, c8, c9, c10, c11], _ => exact ⟨c0, c1, c2, c3, c4, c5, c6, c7, c8, c9, c10, c11, rfl⟩
theorem o_add (b o i : Nat) : (⟨b, o, none⟩ : Addr).add i = ⟨b, o + i, none⟩ := by
  by_cases h : i = 0 <;> simp [Addr.add, h]

set_option maxRecDepth 100000 in
theorem lifted (os : Os) (started : os.Started) (H : Type) (enc : TypeId × Value → H) :
    ReturnsInHanded {} Ybad.checked os 3 .any (fun w args => (Rows.lawS4257BZeroAtEndsSpec.pre enc Ybad.prog Ybad.f3 [] false w args ∧ laidMetH Ybad.prog Rows.lawS4257BZeroAtEndsRow.laid w) ∧ sizedMet enc Ybad.prog Ybad.f3 (OpenSpec.ofChange Rows.lawS4257BZeroAtEndsSpec) false w args)
      (Rows.lawS4257BZeroAtEndsSpec.post enc Ybad.prog Ybad.f3 false true false false) := by
  refine returnsInHanded_of_change_and (C := Ybad.checked) (X := fun w _ => laidMetH Ybad.prog Rows.lawS4257BZeroAtEndsRow.laid w) (fun _ _ _ hh h => h.of_heap hh) own started (by kernel_rfl) Ybad.func3
    (ChangeSpec.witness_shaped (enc := enc) (C := Ybad.checked) (os := os) (X := fun w _ => laidMetH Ybad.prog Rows.lawS4257BZeroAtEndsRow.laid w) false (World.doorLaid Ybad.prog 400 os) #[.agg #[.int .u64 0, .int .u64 0, .int .u64 0, .int .u8 0, .int .u64 0, .slice none 0 0, .bool false, .bool false, .bool false, .int .u64 0, .int .u64 0, .int .u8 0]] 8 rfl (World.shaped_of_RefB (by kernel_rfl) (by kernel_rfl)) (by kernel_rfl) (by kernel_rfl) (by kernel_rfl) (door_met os _)) ?_
  intro W base args ds gs before hval0 hW _ _ hL _
  have hval : ∀ (j : Nat) t v, Ybad.f3.params[j]? = some t → args[j]? = some v → Value.okWide Ybad.prog W .any base t v := hval0
  have hW' := hW
  obtain ⟨p, q, hA0, hV, rfl, hfz, hnd⟩ := hW
  have hA : DataW.TrodAll enc Ybad.prog W 0 (fun _ => true) true Ybad.f3.params.toList args.toList ds p := hA0
  rw [Ybad.params3] at hA hval
  obtain ⟨v0, d0, rfl, rfl, h0⟩ := trodAll_one hA
  obtain ⟨rfl, rfl⟩ := trodVars_none hV
  obtain ⟨cs, rfl, hsz⟩ := okWide_struct Ybad.underlying25 (hval 0 25 v0 rfl rfl)
  obtain ⟨c0, c1, c2, c3, c4, c5, c6, c7, c8, c9, c10, c11, rfl⟩ := array12 (hsz.trans (by kernel_rfl))
  clear hA0 hval0
  have hTab := tab_of hL
  have lt0 : ∀ x ∈ p, x.block < W.heap.size := by obtain ⟨m, hm⟩ := h0; exact DataW.trod_lt m _ _ _ hm
  have hcall : Calls Ybad.prog 3 #[.agg #[c0, c1, c2, c3, c4, c5, c6, c7, c8, c9, c10, c11]] W fun e w' => e = .returned (.bool true) ∧ New W w' := by
    obtain ⟨fuel, hf⟩ := h0
    obtain ⟨xs, n, _, _, _, hlen, hfs⟩ := DataW.trod_struct Ybad.underlying25 hf
    have k5 : Ybad.prog.cellsOf 5 = 1 := by kernel_rfl
    have k22 : Ybad.prog.cellsOf 22 = 1 := by kernel_rfl
    have k23 : Ybad.prog.cellsOf 23 = 1 := by kernel_rfl
    have k4 : Ybad.prog.cellsOf 4 = 1 := by kernel_rfl
    obtain ⟨y0, y1, y2, y3, y4, y5, y6, y7, y8, y9, y10, y11, rfl⟩ := list12 hlen
    have e0 := hfs 0 _ rfl
    simp only [Value.cells, k22] at e0
    have e1 := hfs 1 _ rfl
    simp only [Value.cells, k22] at e1
    have e2 := hfs 2 _ rfl
    simp only [Value.cells, k22] at e2
    have e3 := hfs 3 _ rfl
    simp only [Value.cells, k5] at e3
    have e4 := hfs 4 _ rfl
    simp only [Value.cells, k22] at e4
    have e5 := hfs 5 _ rfl
    simp only [Value.cells, k23] at e5
    have e6 := hfs 6 _ rfl
    simp only [Value.cells, k4] at e6
    have e7 := hfs 7 _ rfl
    simp only [Value.cells, k4] at e7
    have e8 := hfs 8 _ rfl
    simp only [Value.cells, k4] at e8
    have e9 := hfs 9 _ rfl
    simp only [Value.cells, k22] at e9
    have e10 := hfs 10 _ rfl
    simp only [Value.cells, k22] at e10
    have e11 := hfs 11 _ rfl
    simp only [Value.cells, k5] at e11
    obtain ⟨z0, hz0, _, w0⟩ := DataW.trod_int Ybad.underlying22 (show DataW.trod enc Ybad.prog W 0 (fun _ => true) true n 22 [c0] = some y0 from e0)
    obtain rfl : c0 = .int .u64 z0 := by simpa using hz0
    obtain ⟨l0, u0⟩ := bounds_u64 w0
    obtain ⟨A, rfl⟩ : ∃ x : Nat, z0 = x := ⟨z0.toNat, by omega⟩
    obtain ⟨z1, hz1, _, w1⟩ := DataW.trod_int Ybad.underlying22 (show DataW.trod enc Ybad.prog W 0 (fun _ => true) true n 22 [c1] = some y1 from e1)
    obtain rfl : c1 = .int .u64 z1 := by simpa using hz1
    obtain ⟨l1, u1⟩ := bounds_u64 w1
    obtain ⟨L, rfl⟩ : ∃ x : Nat, z1 = x := ⟨z1.toNat, by omega⟩
    obtain ⟨z2, hz2, _, w2⟩ := DataW.trod_int Ybad.underlying22 (show DataW.trod enc Ybad.prog W 0 (fun _ => true) true n 22 [c2] = some y2 from e2)
    obtain rfl : c2 = .int .u64 z2 := by simpa using hz2
    obtain ⟨l2, u2⟩ := bounds_u64 w2
    obtain ⟨O, rfl⟩ : ∃ x : Nat, z2 = x := ⟨z2.toNat, by omega⟩
    obtain ⟨z3, hz3, _, w3⟩ := DataW.trod_int Ybad.underlying5 (show DataW.trod enc Ybad.prog W 0 (fun _ => true) true n 5 [c3] = some y3 from e3)
    obtain rfl : c3 = .int .u8 z3 := by simpa using hz3
    obtain ⟨l3, u3⟩ := bounds_u8 w3
    obtain ⟨st, rfl⟩ : ∃ x : Nat, z3 = x := ⟨z3.toNat, by omega⟩
    obtain ⟨z4, hz4, _, w4⟩ := DataW.trod_int Ybad.underlying22 (show DataW.trod enc Ybad.prog W 0 (fun _ => true) true n 22 [c4] = some y4 from e4)
    obtain rfl : c4 = .int .u64 z4 := by simpa using hz4
    obtain ⟨l4, u4⟩ := bounds_u64 w4
    obtain ⟨Q, rfl⟩ : ∃ x : Nat, z4 = x := ⟨z4.toNat, by omega⟩
    obtain ⟨z9, hz9, _, w9⟩ := DataW.trod_int Ybad.underlying22 (show DataW.trod enc Ybad.prog W 0 (fun _ => true) true n 22 [c9] = some y9 from e9)
    obtain rfl : c9 = .int .u64 z9 := by simpa using hz9
    obtain ⟨l9, u9⟩ := bounds_u64 w9
    obtain ⟨BH, rfl⟩ : ∃ x : Nat, z9 = x := ⟨z9.toNat, by omega⟩
    obtain ⟨z10, hz10, _, w10⟩ := DataW.trod_int Ybad.underlying22 (show DataW.trod enc Ybad.prog W 0 (fun _ => true) true n 22 [c10] = some y10 from e10)
    obtain rfl : c10 = .int .u64 z10 := by simpa using hz10
    obtain ⟨l10, u10⟩ := bounds_u64 w10
    obtain ⟨BL, rfl⟩ : ∃ x : Nat, z10 = x := ⟨z10.toNat, by omega⟩
    obtain ⟨z11, hz11, _, w11⟩ := DataW.trod_int Ybad.underlying5 (show DataW.trod enc Ybad.prog W 0 (fun _ => true) true n 5 [c11] = some y11 from e11)
    obtain rfl : c11 = .int .u8 z11 := by simpa using hz11
    obtain ⟨l11, u11⟩ := bounds_u8 w11
    obtain ⟨Wd, rfl⟩ : ∃ x : Nat, z11 = x := ⟨z11.toNat, by omega⟩
    obtain ⟨li, hz6, _⟩ := DataW.trod_bool Ybad.underlying4 (show DataW.trod enc Ybad.prog W 0 (fun _ => true) true n 4 [c6] = some y6 from e6)
    obtain rfl : c6 = .bool li := by simpa using hz6
    obtain ⟨fl, hz7, _⟩ := DataW.trod_bool Ybad.underlying4 (show DataW.trod enc Ybad.prog W 0 (fun _ => true) true n 4 [c7] = some y7 from e7)
    obtain rfl : c7 = .bool fl := by simpa using hz7
    obtain ⟨db, hz8, _⟩ := DataW.trod_bool Ybad.underlying4 (show DataW.trod enc Ybad.prog W 0 (fun _ => true) true n 4 [c8] = some y8 from e8)
    obtain rfl : c8 = .bool db := by simpa using hz8
    have e5' : DataW.trod enc Ybad.prog W 0 (fun _ => true) true n 23 [c5] = some y5 := e5
    rcases open_ints Ybad.underlying23 Ybad.underlying22 k22 e5' with ⟨hcs, _⟩ | ⟨x, l, c, zs, hcs, _, hl, hm, hz, _, hcell, hwz⟩
    · obtain rfl : c5 = .slice none 0 0 := by simpa using hcs
      exact law_any A L O st Q 0 0 BH BL Wd none (fun _ => 0) li fl db W (by omega) (by omega) (by omega) (by omega) (by omega) (by omega) (fun _ => by decide) (.inl rfl) (by omega) (by omega) (by omega) hTab
    · obtain rfl : c5 = .slice (some x) l c := by simpa using hcs
      unfold maxLen at hm
      have hz' : zs.length = c := by simpa using hz
      have hzb : ∀ j, 0 ≤ zs.getD j 0 ∧ zs.getD j 0 ≤ 18446744073709551615 := fun j => by
        by_cases hj : j < zs.length
        · have : zs.getD j 0 ∈ zs := by rw [List.getD_eq_getElem?_getD, List.getElem?_eq_getElem hj]; exact List.getElem_mem hj
          exact bounds_u64 (hwz _ this)
        · rw [List.getD_eq_getElem?_getD, List.getElem?_eq_none (by omega)]
          exact ⟨by decide, by decide⟩
      refine law_any A L O st Q l c BH BL Wd (some x) (fun j => (zs.getD j 0).toNat) li fl db W (by omega) (by omega) (by omega) (by omega) (by omega) (by omega) (fun j => ?_) ?_ (by omega) (by omega) (by omega) hTab
      · have := hzb j
        show (zs.getD j 0).toNat < _
        omega
      · by_cases h0 : l = 0
        · exact .inl h0
        · obtain ⟨b, off, spot⟩ := x
          have hspot : spot = none := by simpa [Addr.add] using World.cell?_spot (hcell 0 (by omega))
          subst hspot
          refine .inr ⟨b, off, rfl, fun j hj => ?_⟩
          have h1 := hcell j (by omega)
          rw [o_add] at h1
          rw [h1]
          have := hzb j
          rw [show (((zs.getD j 0).toNat : Nat) : Int) = zs.getD j 0 by omega]
  refine hcall.mono fun e W' ⟨he, hN⟩ => ?_
  subst he
  have bel : Below W.heap.size W W' := hN.below (fun _ f => f.elim) (Nat.le_refl _)
  exact ⟨_, rfl, _, _, _, [], _, [], hW', trodAll_mk1 (shut_bool Ybad.underlying4 _), trodAll_mk1 (Below.trod laidOut (by kernel_rfl) (of_decide_eq_true (by kernel_rfl)) h0 bel lt0), rfl, bel.frame _, fun h => by cases h⟩

theorem over : Rows.LawS4257BZeroAtEndsSaid :=
  OpenClaim.holds_of_wide 3 Ybad.f3 rfl rfl rfl rfl rfl rfl rfl ⟨rfl, rfl, rfl, rfl, rfl⟩ rfl rfl rfl rfl rfl (by kernel_rfl) Ybad.func3 (by kernel_rfl)
    (of_decide_eq_true (by kernel_rfl)) (by unfold Func.isWrapper; first | (rw [if_pos (by decide +kernel)]; kernel_rfl) | (rw [if_neg (by decide +kernel)]; exact ⟨rfl, rfl⟩))
    (fun os started H enc _ => lifted os started H enc)

/-- ████ THE STATEMENT ████ -/
theorem proved : Rows.LawS4257BZeroAtEndsCardSaid :=
  Claim7.holds_tied_plain_at .later [] [.data] true (true, "0d3408c5a85107d09dedfcb3dd941f75628216489f9af95d0b55fcd3b7c4ffba") false
    over (fun _ h => by cases h) (by kernel_rfl) (fun _ h => by cases h) lawS4257BZeroAtEnds_row_tie rfl ⟨rfl, rfl⟩ (by kernel_rfl) rfl
    (fun f fn hf hfn => by
      obtain rfl : f = 3 := Option.some.inj ((show Ybad.prog.funcNamed "example.com/quorumweave/quorumweave/topology.LawS4257BZeroAtEnds" = some 3 by kernel_rfl).symm.trans hf) |>.symm
      obtain rfl : fn = Ybad.f3 := (Option.some.inj (Ybad.func3.symm.trans hfn)).symm
      exact ⟨by kernel_rfl, fun j t ht => by
        rw [Ybad.params3] at ht
        have h3 : t = 25 := by
          rcases j with _ | j
          · simpa using ht.symm
          · simp at ht
        subst h3
        exact (show Ybad.prog.wantsStandIn 25 = false by kernel_rfl)⟩)
    (by kernel_rfl)
end Go.Proofs.YbulkcjdgDoor.lawS4257BZeroAtEnds
