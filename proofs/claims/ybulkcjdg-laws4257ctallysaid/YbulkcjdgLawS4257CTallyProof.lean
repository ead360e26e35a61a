/- The law 'sim.LawS4257CTally': the frame after the seat's shells; the walk lies in YbulkcjdgLaw. -/
import Derived.Test.YbulkcjdgRows
import Derived.Test.YbulkcjdgOpen
import Derived.Test.YbulkcjdgLaw
namespace Go.Proofs.Ybulkcjdg.lawS4257CTally
open Go.ChangeShapes Go.WideShapes Go.ChangeAt Go.RowKit
open Go.ChangeMaps (open_string shut_string)
set_option linter.unusedVariables false

theorem own : ownKnob Yba.prog.godebug = none := by kernel_rfl
theorem laidOut : laidOutB Yba.prog = true := by kernel_rfl

set_option maxRecDepth 100000 in
theorem lifted (os : Os) (started : os.Started) (H : Type) (enc : TypeId × Value → H) :
    ReturnsInHanded {} Yba.checked os 5 .any (Rows.lawS4257CTallySpec.pre6 enc Yba.prog Yba.f5 Rows.lawS4257CTallyRow.domain false) (Rows.lawS4257CTallySpec.post enc Yba.prog Yba.f5 false true false false) := by
  refine returnsInHanded_of_change (C := Yba.checked) own started (by kernel_rfl) Yba.func5
    (ChangeSpec.witness6 (enc := enc) (C := Yba.checked) false ⟨#[], #[.int .u8 0, .int .i8 0, .int .u8 0, .slice none 0 0, .slice none 0 0, .slice none 0 0, .slice none 0 0, .slice none 0 0, .slice none 0 0, .bool false, .slice none 0 0], []⟩ 8 (by kernel_rfl) (by kernel_rfl) (by kernel_rfl) (by kernel_rfl)) ?_
  intro W base args ds gs before hval0 hW hcnd _
  have hval : ∀ (j : Nat) t v, Yba.f5.params[j]? = some t → args[j]? = some v → Value.okWide Yba.prog W .any base t v := hval0
  have hW' := hW
  obtain ⟨p, q, hA0, hV, rfl, hfz, hnd⟩ := hW
  have hA : DataW.TrodAll enc Yba.prog W 0 (fun _ => true) true Yba.f5.params.toList args.toList ds p := hA0
  rw [Yba.params5] at hA hval
  obtain ⟨v0, vs0, d0, ds0, p0, q0, hargs, rfl, rfl, h0, r0⟩ := trodAll_cons hA
  obtain ⟨v1, vs1, d1, ds1, p1, q1, rfl, rfl, rfl, h1, r1⟩ := trodAll_cons r0
  obtain ⟨v2, vs2, d2, ds2, p2, q2, rfl, rfl, rfl, h2, r2⟩ := trodAll_cons r1
  obtain ⟨v3, vs3, d3, ds3, p3, q3, rfl, rfl, rfl, h3, r3⟩ := trodAll_cons r2
  obtain ⟨v4, vs4, d4, ds4, p4, q4, rfl, rfl, rfl, h4, r4⟩ := trodAll_cons r3
  obtain ⟨v5, vs5, d5, ds5, p5, q5, rfl, rfl, rfl, h5, r5⟩ := trodAll_cons r4
  obtain ⟨v6, vs6, d6, ds6, p6, q6, rfl, rfl, rfl, h6, r6⟩ := trodAll_cons r5
  obtain ⟨v7, vs7, d7, ds7, p7, q7, rfl, rfl, rfl, h7, r7⟩ := trodAll_cons r6
  obtain ⟨v8, vs8, d8, ds8, p8, q8, rfl, rfl, rfl, h8, r8⟩ := trodAll_cons r7
  obtain ⟨v9, vs9, d9, ds9, p9, q9, rfl, rfl, rfl, h9, r9⟩ := trodAll_cons r8
  obtain ⟨v10, vs10, d10, ds10, p10, q10, rfl, rfl, rfl, h10, r10⟩ := trodAll_cons r9
  obtain ⟨rfl, rfl, rfl⟩ := trodAll_nil r10
  obtain rfl : args = #[v0, v1, v2, v3, v4, v5, v6, v7, v8, v9, v10] := by cases args; simp_all
  obtain ⟨rfl, rfl⟩ := trodVars_none hV
  obtain ⟨a0, rfl, rfl, rfl, w0⟩ := open_int Yba.underlying5 (hval 0 5 v0 rfl rfl) h0
  obtain ⟨a1, rfl, rfl, rfl, w1⟩ := open_int Yba.underlying52 (hval 1 52 v1 rfl rfl) h1
  obtain ⟨a2, rfl, rfl, rfl, w2⟩ := open_int Yba.underlying5 (hval 2 5 v2 rfl rfl) h2
  obtain ⟨sa, sl, sc, rfl⟩ := okWide_slice Yba.underlying53 (hval 3 53 v3 rfl rfl)
  obtain ⟨aa, al, ac, rfl⟩ := okWide_slice Yba.underlying54 (hval 4 54 v4 rfl rfl)
  obtain ⟨ra, rl, rc, rfl⟩ := okWide_slice Yba.underlying54 (hval 5 54 v5 rfl rfl)
  obtain ⟨ma, ml, mc, rfl⟩ := okWide_slice Yba.underlying55 (hval 6 55 v6 rfl rfl)
  obtain ⟨ba, bl, bc, rfl⟩ := okWide_slice Yba.underlying54 (hval 7 54 v7 rfl rfl)
  obtain ⟨za, zl, zc, rfl⟩ := okWide_slice Yba.underlying54 (hval 8 54 v8 rfl rfl)
  obtain ⟨ub, rfl, rfl, rfl⟩ := open_bool Yba.underlying4 (hval 9 4 v9 rfl rfl) h9
  obtain ⟨ia, il, ic, rfl⟩ := okWide_slice Yba.underlying56 (hval 10 56 v10 rfl rfl)
  clear hA0 hval0
  have lt3 : ∀ x ∈ p3, x.block < W.heap.size := by obtain ⟨m, hm⟩ := h3; exact DataW.trod_lt m _ _ _ hm
  have lt4 : ∀ x ∈ p4, x.block < W.heap.size := by obtain ⟨m, hm⟩ := h4; exact DataW.trod_lt m _ _ _ hm
  have lt5 : ∀ x ∈ p5, x.block < W.heap.size := by obtain ⟨m, hm⟩ := h5; exact DataW.trod_lt m _ _ _ hm
  have lt6 : ∀ x ∈ p6, x.block < W.heap.size := by obtain ⟨m, hm⟩ := h6; exact DataW.trod_lt m _ _ _ hm
  have lt7 : ∀ x ∈ p7, x.block < W.heap.size := by obtain ⟨m, hm⟩ := h7; exact DataW.trod_lt m _ _ _ hm
  have lt8 : ∀ x ∈ p8, x.block < W.heap.size := by obtain ⟨m, hm⟩ := h8; exact DataW.trod_lt m _ _ _ hm
  have lt10 : ∀ x ∈ p10, x.block < W.heap.size := by obtain ⟨m, hm⟩ := h10; exact DataW.trod_lt m _ _ _ hm
  have hcall : Calls Yba.prog 5 #[.int .u8 a0, .int .i8 a1, .int .u8 a2, .slice sa sl sc, .slice aa al ac, .slice ra rl rc, .slice ma ml mc, .slice ba bl bc, .slice za zl zc, .bool ub, .slice ia il ic] W fun e w' => e = .returned (.bool true) ∧ Below W.heap.size W w' := by
    by_cases hil : il ≤ 1024
    · obtain ⟨b00, b01⟩ := bounds_u8 w0
      obtain ⟨b10, b11⟩ := bounds_i8 w1
      obtain ⟨b20, b21⟩ := bounds_u8 w2
      obtain ⟨S, hS⟩ := o_rows h3
      obtain ⟨A, hA'⟩ := o_bools h4
      obtain ⟨Rc, hRc⟩ := o_bools h5
      obtain ⟨_, M, mlen, mrow, mbd⟩ := o_ints Yba.underlying55 Yba.underlying80 (by kernel_rfl) h6
      obtain ⟨Bq, hBq⟩ := o_bools h7
      obtain ⟨Zq, hZq⟩ := o_bools h8
      obtain ⟨inil, I, ilen, irow, ibd⟩ := o_ints Yba.underlying56 Yba.underlying52 (by kernel_rfl) h10
      obtain ⟨x0, rfl⟩ : ∃ x : Nat, a0 = x := ⟨a0.toNat, by omega⟩
      obtain ⟨x2, rfl⟩ : ∃ x : Nat, a2 = x := ⟨a2.toNat, by omega⟩
      exact law_walk W sa aa ra ma ba za ia sl sc al ac rl rc ml mc bl bc zl zc il ic S A Rc M Bq Zq I ⟨hS, hA', hRc, mlen, mrow, fun x hx => bounds_i16 (mbd x hx), hBq, hZq, ilen, irow, fun x hx => bounds_i8 (ibd x hx), inil⟩ hil
        x0 x2 a1 (x0 % 8) (x2 % 41) (by omega) (by omega) (by omega) (by omega) (by omega) (by omega) b10 b11 ub
    · exact law_short W _ _ _ _ _ _ _ _ _ _ ia il ic (by omega)
  refine hcall.mono fun e W' ⟨he, bel⟩ => ?_
  subst he
  exact ⟨_, rfl, _, _, _, [], _, [], hW', trodAll_mk1 (shut_bool Yba.underlying4 _),
    (trodAll_cons_mk (shut_int Yba.underlying5 w0) (trodAll_cons_mk (shut_int Yba.underlying52 w1) (trodAll_cons_mk (shut_int Yba.underlying5 w2)
      (trodAll_cons_mk (Below.trod laidOut (by kernel_rfl) (of_decide_eq_true (by kernel_rfl)) h3 bel lt3)
      (trodAll_cons_mk (Below.trod laidOut (by kernel_rfl) (of_decide_eq_true (by kernel_rfl)) h4 bel lt4)
      (trodAll_cons_mk (Below.trod laidOut (by kernel_rfl) (of_decide_eq_true (by kernel_rfl)) h5 bel lt5)
      (trodAll_cons_mk (Below.trod laidOut (by kernel_rfl) (of_decide_eq_true (by kernel_rfl)) h6 bel lt6)
      (trodAll_cons_mk (Below.trod laidOut (by kernel_rfl) (of_decide_eq_true (by kernel_rfl)) h7 bel lt7)
      (trodAll_cons_mk (Below.trod laidOut (by kernel_rfl) (of_decide_eq_true (by kernel_rfl)) h8 bel lt8)
      (trodAll_cons_mk (shut_bool Yba.underlying4 _)
      (trodAll_cons_mk (Below.trod laidOut (by kernel_rfl) (of_decide_eq_true (by kernel_rfl)) h10 bel lt10) trodAll_mk0))))))))))), rfl, bel.frame _, fun h => by cases h⟩

theorem over : Rows.lawS4257CTallyRow.holds Yba.pinned (OpenSpec.ofChange Rows.lawS4257CTallySpec) :=
  OpenClaim.holds_of_wide 5 Yba.f5 rfl rfl rfl rfl rfl rfl rfl ⟨rfl, rfl, rfl, rfl, rfl⟩ rfl rfl rfl rfl rfl (by kernel_rfl) Yba.func5 (by kernel_rfl)
    (of_decide_eq_true (by kernel_rfl)) (by unfold Func.isWrapper; first | (rw [if_pos (by decide +kernel)]; kernel_rfl) | (rw [if_neg (by decide +kernel)]; exact ⟨rfl, rfl⟩))
    (fun os started H enc _ => lifted os started H enc)

/-- ████ THE STATEMENT ████ -/
theorem proved : Rows.LawS4257CTallySaid := over
end Go.Proofs.Ybulkcjdg.lawS4257CTally
