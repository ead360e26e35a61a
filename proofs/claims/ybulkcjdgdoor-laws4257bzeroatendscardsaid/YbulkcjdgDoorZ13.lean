import Derived.Test.YbulkcjdgDoorZ12
import Derived.Deep.CutBlock
namespace Go.Proofs.YbulkcjdgDoor
open Go.RowKit
set_option linter.unusedVariables false
set_option linter.unusedSimpArgs false

set_option maxRecDepth 100000 in
set_option maxHeartbeats 8000000 in
theorem arc_any (s : Sp) (E al a n bh bl : Nat) (near : Nat → Nat) (dbl : Bool) (w : World) (hO : s.Ok E) (hA : s.At E w) (hN : Nr w E al near) (hT : Tab w) (hE : E < w.heap.size)
    (hmark : al % 2 = 1 ∨ ∀ m, m < s.ne → near (s.ends m / 72057594037927936) % 2 = 1) (ha : a < 18446744073709551616) (hn : n < 18446744073709551616) (hn1 : 1 ≤ n) (hbh : bh < 18446744073709551616) (hbl : bl < 18446744073709551616) (hmv : mv s.steps bh bl ≤ s.steps + 1) :
    Calls Ybad.prog 5 #[.pointer (some ⟨E, 0, none⟩), .int .u64 a, .int .u64 n, .bool dbl, .agg #[.int .u64 bh, .int .u64 bl]] w fun e w' => ∃ (eh el W : Nat) (h : Int), e = .returned (.tuple #[.agg #[.int .u64 eh, .int .u64 el], .int .i64 h]) ∧ New w w' ∧
      In s bh bl (hits s.ends a n s.ne ∨ (bh = 0 ∧ bl = 0)) eh el h W ∧ (hits s.ends a n s.ne → ¬ (bh = 0 ∧ bl = 0) → eh = 0 ∧ el = 0 ∧ h = 0) := by
  obtain ⟨W0, hW0⟩ : ∃ W0, mv s.steps bh bl = W0 := ⟨_, rfl⟩
  have HMV : ∀ w' : World, New w w' → Hid (Calls Ybad.prog 9 #[.pointer (some ⟨E, 0, none⟩), .agg #[.int .u64 bh, .int .u64 bl]] w' fun e w'' => e = .returned (.int .i64 W0) ∧ New w' w'') := fun w' hw => hidden (hW0 ▸ moves_any E s.steps bh bl w' (hw.cells hA.c2) (Nat.lt_of_lt_of_le hE hw.size) hO.st1 hO.st2 hbh)
  have HL : ∀ w' : World, Hid (Calls Ybad.prog 10 #[.int .u64 n] w' fun e w'' => ∃ k : Nat, e = .returned (.int .i64 k) ∧ w'' = w' ∧ k ≤ 64) := fun w' => hidden (len64 n hn w')
  have HO := hidden hO
  have HA := hidden hA
  have HN := hidden hN
  have HT := hidden hT
  have HK := hidden hmark
  have HW := hidden hW0
  clear hO hA hN hT hmark
  go_enter Ybad.func5, Ybad.ntmps5
  go_wp2_with (first
    | (go_at_call 9; refine (HMV _ (((Chg.refl _ w).alloc _).alloc _)).out.mono ?_; rintro e w9 ⟨rfl, hw9⟩)
    | (go_at_call 10; refine (HL _).out.mono ?_; rintro e w10 ⟨kl, rfl, hw10, hkl⟩; have hw8 := hw10.symm; subst hw8))
  clear hw10
  have hNw9 : New w w9 := New.trans (((Chg.refl _ w).alloc _).alloc _) hw9
  have hB9 : w9.heap[w.heap.size + 1]? = some (.cells #[.int .u64 bh, .int .u64 bl] 28) := by
    rw [hw9.block _ (by simp only [Go.Deep.nblk_alloc]; omega) (fun f => f)]
    have := Go.Deep.blk_alloc_new (w.alloc (.cells #[.int .u64 bh, .int .u64 bl] 28)) (.cells #[.int .u64 bh, .int .u64 bl] 28)
    rw [Go.Deep.nblk_alloc] at this
    exact this
  clear hw9 HMV HL
  go_loopg [11, 12, 14, 15, 16] 32 (fun g hv Wv av nv jv wr => ∃ (j a' n' eh el W : Nat) (h : Int), g + j = 32 ∧ hv = .int .i64 h ∧ Wv = .int .i64 W ∧ av = .int .u64 a' ∧ nv = .int .u64 n' ∧ jv = .int .i64 j ∧ a' < 18446744073709551616 ∧ n' < 18446744073709551616 ∧ New w wr ∧
    wr.heap[w.heap.size + 1]? = some (.cells #[.int .u64 eh, .int .u64 el] 28) ∧ In s bh bl (hits s.ends a n s.ne ∨ (bh = 0 ∧ bl = 0)) eh el h W ∧ (j = 0 → a' = a ∧ n' = n ∧ h = -1 ∧ eh = bh ∧ el = bl) ∧ (hits s.ends a n s.ne → ¬ (bh = 0 ∧ bl = 0) → 1 ≤ j → eh = 0 ∧ el = 0 ∧ h = 0))
  case atStart => exact ⟨0, a, n, bh, bl, W0, -1, rfl, rfl, rfl, rfl, rfl, rfl, ha, hn, hNw9, hB9, ⟨HW.out.symm, HW.out ▸ hmv, hbh, hbl, .inl ⟨rfl, rfl, rfl⟩, fun h h2 => h (.inr h2)⟩, fun _ => ⟨rfl, rfl, rfl, rfl, rfl⟩, fun _ _ h => absurd h (by omega)⟩
  case round =>
    obtain ⟨j, a', n', eh, el, W, h, hgj, rfl, rfl, rfl, rfl, rfl, ha', hn', hNr, hB, hIn, hj0, hht⟩ := hrel
    have HNr := hidden hNr
    have HB := hidden hB
    have HI := hidden hIn
    have HJ := hidden hj0
    have HH := hidden hht
    have hWb := hIn.wb
    have hst1 := HO.out.st1
    have hst2 := HO.out.st2
    clear hNr hB hIn hj0 hht hNw9 hB9 hmv hW0
    go_upto_region 6 with fail
    obtain ⟨c, hcd⟩ : ∃ c, (decide (j < W) && (decide (j = 0) || dbl)) = c := ⟨_, rfl⟩
    have HC := hidden hcd
    clear hcd
    go_cut [44] (fun s44 wx => wx = wr ∧ s44 = .bool c)
    case first =>
      as_aux_lemma =>
        by_cases h1 : j < W
        · have h1z : (j : Int) < (W : Int) := by omega
          by_cases h2 : j = 0
          · subst h2
            go_wp2_with fail
            go_meet
            refine ⟨rfl, ?_⟩
            rw [← HC.out, decide_eq_true h1]; rfl
          · have h2b : ((j : Int) == 0) = false := by simp; omega
            have h2z : ¬ (j : Int) = 0 := by omega
            go_wp2_with fail
            go_meet
            refine ⟨rfl, ?_⟩
            rw [← HC.out, decide_eq_true h1, decide_eq_false h2]; rfl
        · have h1z : ¬ (j : Int) < (W : Int) := by omega
          go_wp2_with fail
          go_meet
          refine ⟨rfl, ?_⟩
          rw [← HC.out, decide_eq_false h1]; rfl
    case rest =>
      obtain ⟨rfl, rfl⟩ := hcut
      cases c
      ·
        as_aux_lemma =>
          have B0 := HB.out
          have b0 : wc.cell? ⟨w.heap.size + 1, 0, none⟩ = some (.int .u64 eh) := by simp [World.cell?, B0]
          have b1 : wc.cell? ⟨w.heap.size + 1, 1, none⟩ = some (.int .u64 el) := by simp [World.cell?, B0]
          have bf : ∀ i, wc.frozen? ⟨w.heap.size + 1, i, none⟩ = false := fun i => by simp [World.frozen?, B0]
          have bf0 := bf 0
          have bf1 := bf 1
          go_wp2_with fail
          refine bodyPost_ret (v := .tuple #[.agg #[.int .u64 eh, .int .u64 el], .int .i64 h]) (by rw [results_cell_tmp rfl]; simp [go_sem, b0, b1]; try rfl) rfl ?_
          refine ⟨eh, el, W, h, rfl, (HNr.out.setCell (.inr (by simp only []; omega)) _).setCell (.inr (by simp only []; omega)) _, HI.out, fun h1 h2 => ?_⟩
          have hc := HC.out
          by_cases h0 : j = 0
          · exfalso
            obtain ⟨_, _, _, rfl, rfl⟩ := HJ.out h0
            by_cases hw : j < W
            · rw [decide_eq_true hw, decide_eq_true h0] at hc
              cases hc
            · exact h2 (mv_nil (st := s.steps) (by rw [← HI.out.wh]; omega))
          · exact HH.out h1 h2 (by omega)
      · have hjW : j < W := by
          apply Classical.byContradiction
          intro h
          have hc := HC.out
          rw [decide_eq_false h] at hc
          cases hc
        have hjWz : (j : Int) < W := by omega
        obtain ⟨m, hm⟩ : ∃ m : Nat, (W : Int) - j = m := ⟨W - j, by omega⟩
        have hm1 : 1 ≤ m := by omega
        have hm31 : m ≤ 31 := by omega
        have a31 := and31 m (by omega) (by omega)
        rw [show (m : Int) % 32 = m by omega] at a31
        obtain ⟨M, hM, hMm, hMo⟩ : ∃ M : Nat, ((2 : Int) ^ m % 4294967296 - 1) % 4294967296 = (M : Int) ∧ M < 2 ^ m ∧ M % 2 = 1 := by
          have h1 : 2 ^ m ≤ 2 ^ 31 := Nat.pow_le_pow_right (by omega) hm31
          have h2 : 0 < 2 ^ m := Nat.two_pow_pos _
          have h3 : ((2 : Int) ^ m) = ((2 ^ m : Nat) : Int) := by simp
          have h4 : 2 ^ m % 2 = 0 := by
            obtain ⟨i, rfl⟩ : ∃ i, m = i + 1 := ⟨m - 1, by omega⟩
            rw [Nat.pow_succ]; omega
          refine ⟨2 ^ m - 1, ?_, by omega, by omega⟩
          rw [h3]
          generalize 2 ^ m = z at *
          omega
        have HM2 := hidden hMm
        have hM32 : M < 4294967296 := by
          have h1 : 2 ^ m ≤ 2 ^ 31 := Nat.pow_le_pow_right (by omega) hm31
          omega
        clear hMm
        have HJ0 : Hid (hits s.ends a n s.ne → ¬ (bh = 0 ∧ bl = 0) → j = 0) := hidden (fun h1 h2 => by
          apply Classical.byContradiction
          intro h3
          obtain ⟨e1, e2, _⟩ := HH.out h1 h2 (by omega)
          have := HI.out.wh
          rw [e1, e2, mv_zero] at this
          omega)
        obtain ⟨cv, hcv⟩ : ∃ cv, decide ((65 : Int) - kl ≤ j) = cv := ⟨_, rfl⟩
        go_upto_if 62 with fail
        go_cut [18] (fun s18 wx => New wc wx ∧ ∃ nr : Nat, s18 = .int .u32 nr ∧ nr < 2 ^ m ∧ nr < 4294967296 ∧ (hits s.ends a n s.ne → ¬ (bh = 0 ∧ bl = 0) → nr % 2 = 1))
        case first =>
          as_aux_lemma =>
            cases cv
            · have HV := hidden (halv_any E a' n' al near wc (HNr.out.cells HN.out.a) (fun i hi => HNr.out.cells (HN.out.n i hi)) HN.out.al HN.out.nb ha' hn')
              go_wp2_with (go_at_call 11; refine HV.out.mono ?_; rintro e w11 ⟨r, rfl, hw11, hr, hrm⟩; have HR := hidden hrm; clear hrm; have hand := u32_and_nat M r hM32 hr)
              go_meet
              refine ⟨hw11, M &&& r, rfl, Nat.lt_of_le_of_lt Nat.and_le_left HM2.out, Nat.lt_of_le_of_lt Nat.and_le_left hM32, fun h1 h2 => ?_⟩
              have h0 := HJ0.out h1 h2
              obtain ⟨rfl, rfl, _⟩ := HJ.out h0
              obtain ⟨q, hq, hu⟩ := h1
              have hro : r % 2 = 1 := HR.out hn1 (s.ends q) (HO.out.ends q) hu (HK.out.elim .inl fun h => .inr (h q hq))
              have e := Nat.and_mod_two_pow (a := M) (b := r) (n := 1)
              rw [Nat.pow_one, hMo, hro] at e
              exact e
            · go_wp2_with fail
              go_meet
              exact ⟨Chg.refl _ _, M, congrArg (Value.int .u32) hM, HM2.out, hM32, fun _ _ => hMo⟩
        case rest =>
          obtain ⟨hN2, nr, rfl, hnm, hn32, hno⟩ := hcut
          have HN2 := hidden (HNr.out.trans hN2)
          have HB2 : Hid (wc.heap[w.heap.size + 1]? = some (.cells #[.int .u64 eh, .int .u64 el] 28)) := hidden (by
            have hB := HB.out
            rw [hN2.block _ (Array.getElem?_eq_some_iff.1 hB).1 (fun f => f)]
            exact hB)
          have HNM := hidden hnm
          have HNO := hidden hno
          have HCV := hidden hcv
          clear hN2 hnm hno hcv HNr HB hM HM2 hM32 a31 hMo
          obtain ⟨a2, ha2, ha2b⟩ : ∃ a2 : Nat, IntKind.u64.wrap ((a' : Int) * 2) = (a2 : Int) ∧ a2 < 18446744073709551616 := by
            refine ⟨(IntKind.u64.wrap ((a' : Int) * 2)).toNat, ?_, ?_⟩ <;> rw [IntKind.wrap_u64] <;> omega
          obtain ⟨n2, hn2, hn2b⟩ : ∃ n2 : Nat, IntKind.u64.wrap ((n' : Int) * 2) = (n2 : Int) ∧ n2 < 18446744073709551616 := by
            refine ⟨(IntKind.u64.wrap ((n' : Int) * 2)).toNat, ?_, ?_⟩ <;> rw [IntKind.wrap_u64] <;> omega
          by_cases hz : nr = 0
          ·
            as_aux_lemma =>
              subst hz
              go_wp2_with fail
              go_roundg (32 - (j + 1))
              case measure => omega
              case rel =>
                refine ⟨j + 1, a2, n2, eh, el, W, h, by omega, rfl, rfl, ?_, ?_, by go_num, ha2b, hn2b, HN2.out, HB2.out, HI.out, fun h => absurd h (by omega), fun h1 h2 _ => absurd (HNO.out h1 h2) (by omega)⟩ <;> rfl
          · have hzb : ((nr : Int) == 0) = false := by simp; omega
            have hzn : ((nr : Int) != 0) = true := by simp; omega
            have hzz : ¬ (nr : Int) = 0 := by omega
            have A2 := HA.out.new HN2.out
            have d3 := A2.c3
            have dr := A2.r m (by omega)
            have hmz : (m : Int) < s.steps + 2 := by omega
            clear A2
            go_wp2_with fail
            go_loopg [11, 12, 18, 19] nr (fun g hv Wv nv rv wr => ∃ (nr eh el W : Nat) (h : Int), g = nr ∧ hv = .int .i64 h ∧ Wv = .int .i64 W ∧ nv = .int .u32 nr ∧ j ≤ W ∧ rv = .slice (some ⟨s.rb (W - j), 0, none⟩) (W - j + 1) (W - j + 1) ∧ nr < 2 ^ m ∧ nr < 4294967296 ∧ New w wr ∧
              wr.heap[w.heap.size + 1]? = some (.cells #[.int .u64 eh, .int .u64 el] 28) ∧ In s bh bl (hits s.ends a n s.ne ∨ (bh = 0 ∧ bl = 0)) eh el h W ∧
              (hits s.ends a n s.ne → ¬ (bh = 0 ∧ bl = 0) → (nr % 2 = 1 ∧ eh = bh ∧ el = bl) ∨ (nr % 2 = 0 ∧ eh = 0 ∧ el = 0 ∧ h = 0)))
            case atStart =>
              exact ⟨nr, eh, el, W, h, rfl, rfl, rfl, rfl, by omega, by rw [show W - j = m by omega], HNM.out, hn32, HN2.out, HB2.out, HI.out, fun h1 h2 => .inl ⟨HNO.out h1 h2, (HJ.out (HJ0.out h1 h2)).2.2.2⟩⟩
            case round =>
              obtain ⟨x, eh', el', W', h', hgx, rfl, rfl, rfl, hjW', rfl, hxm, hx32, hN3, hB3, hI3, hht3⟩ := hrel
              have HN3 := hidden hN3
              have HB3 := hidden hB3
              have HI3 := hidden hI3
              have HH3 := hidden hht3
              have HXM := hidden hxm
              have hWb' := hI3.wb
              clear HI HH HB2 HN2 HNM HNO HC hN3 hB3 hI3 hht3 hxm hzb hzn hzz d3 dr
              by_cases hx : x = 0
              · subst hx
                as_aux_lemma =>
                  have EX : Hid (hits s.ends a n s.ne → ¬ (bh = 0 ∧ bl = 0) → eh' = 0 ∧ el' = 0 ∧ h' = 0) := hidden (fun h1 h2 => (HH3.out h1 h2).elim (fun h => absurd h.1 (by decide)) (fun h => h.2))
                  cases cv
                  · go_wp2_with fail
                    go_roundg (32 - (j + 1))
                    case measure => omega
                    case rel => exact ⟨j + 1, a2, n2, eh', el', W', h', by omega, rfl, rfl, rfl, rfl, by go_num, ha2b, hn2b, HN3.out, HB3.out, HI3.out, fun h => absurd h (by omega), fun h1 h2 _ => EX.out h1 h2⟩
                  · have B0 := HB3.out
                    have b0 : wr.cell? ⟨w.heap.size + 1, 0, none⟩ = some (.int .u64 eh') := by simp [World.cell?, B0]
                    have b1 : wr.cell? ⟨w.heap.size + 1, 1, none⟩ = some (.int .u64 el') := by simp [World.cell?, B0]
                    have bf : ∀ i, wr.frozen? ⟨w.heap.size + 1, i, none⟩ = false := fun i => by simp [World.frozen?, B0]
                    have bf0 := bf 0
                    have bf1 := bf 1
                    go_wp2_with fail
                    refine bodyPost_ret (v := .tuple #[.agg #[.int .u64 eh', .int .u64 el'], .int .i64 h']) (by rw [results_cell_tmp rfl]; simp [go_sem, b0, b1]; try rfl) rfl ?_
                    exact ⟨eh', el', W', h', rfl, (HN3.out.setCell (.inr (by simp only []; omega)) _).setCell (.inr (by simp only []; omega)) _, HI3.out, by first | exact EX.out | exact fun h1 h2 => EX.out h1 (fun h => h2 h.1 h.2)⟩
              · have hxz : ¬ (x : Int) = 0 := by omega
                have hxn : ((x : Int) != 0) = true := by simp; omega
                obtain ⟨l, hl⟩ : ∃ l, W' - j = l := ⟨_, rfl⟩
                rw [hl]
                go_upto_block 3 with fail
                go_cut [11, 12, 19] (fun hv Wv rv wx => ∃ (eh el W : Nat) (h : Int), hv = .int .i64 h ∧ Wv = .int .i64 W ∧ j ≤ W ∧ rv = .slice (some ⟨s.rb (W - j), 0, none⟩) (W - j + 1) (W - j + 1) ∧ New w wx ∧
                  wx.heap[w.heap.size + 1]? = some (.cells #[.int .u64 eh, .int .u64 el] 28) ∧ In s bh bl (hits s.ends a n s.ne ∨ (bh = 0 ∧ bl = 0)) eh el h W ∧
                  (hits s.ends a n s.ne → ¬ (bh = 0 ∧ bl = 0) → eh = 0 ∧ el = 0 ∧ h = 0))
                case first =>
                  have TZ := hidden (tz32 x (by omega) hx32 wr (HT.out.new HN3.out))
                  go_upto_if 91 with (go_at_call 12; refine TZ.out.mono ?_; rintro e w12 ⟨k, rfl, hw12, hk32, hkx⟩; have hw8 := hw12.symm; subst hw8)
                  clear TZ hw12
                  have HKX := hidden hkx
                  clear hkx
                  by_cases hkl : l + 1 ≤ k
                  · have hklz : (l : Int) + 1 ≤ k := by omega
                    as_aux_lemma =>
                      have EX : Hid (hits s.ends a n s.ne → ¬ (bh = 0 ∧ bl = 0) → eh' = 0 ∧ el' = 0 ∧ h' = 0) := hidden (fun h1 h2 => (HH3.out h1 h2).elim (fun h => by
                        have hk0 := (low_even HKX.out).2 h.1
                        exact absurd hk0 (Nat.ne_of_gt (Nat.lt_of_lt_of_le (Nat.succ_pos _) hkl))) (fun h => h.2))
                      cases cv
                      · go_wp2_with fail
                        go_roundg (32 - (j + 1))
                        case measure => omega
                        case rel => exact ⟨j + 1, a2, n2, eh', el', W', h', by omega, rfl, rfl, rfl, rfl, by go_num, ha2b, hn2b, HN3.out, HB3.out, HI3.out, fun h => absurd h (by omega), fun h1 h2 _ => EX.out h1 h2⟩
                      · have B0 := HB3.out
                        have b0 : wr.cell? ⟨w.heap.size + 1, 0, none⟩ = some (.int .u64 eh') := by simp [World.cell?, B0]
                        have b1 : wr.cell? ⟨w.heap.size + 1, 1, none⟩ = some (.int .u64 el') := by simp [World.cell?, B0]
                        have bf : ∀ i, wr.frozen? ⟨w.heap.size + 1, i, none⟩ = false := fun i => by simp [World.frozen?, B0]
                        have bf0 := bf 0
                        have bf1 := bf 1
                        go_wp2_with fail
                        refine bodyPost_ret (v := .tuple #[.agg #[.int .u64 eh', .int .u64 el'], .int .i64 h']) (by rw [results_cell_tmp rfl]; simp [go_sem, b0, b1]; try rfl) rfl ?_
                        exact ⟨eh', el', W', h', rfl, (HN3.out.setCell (.inr (by simp only []; omega)) _).setCell (.inr (by simp only []; omega)) _, HI3.out, by first | exact EX.out | exact fun h1 h2 => EX.out h1 (fun h => h2 h.1 h.2)⟩
                  · have hklz : ¬ (l : Int) + 1 ≤ k := by omega
                    have HF : Hid (hits s.ends a n s.ne → ¬ (bh = 0 ∧ bl = 0) → k = 0 ∧ j = 0 ∧ eh' = bh ∧ el' = bl) := hidden (fun h1 h2 => by
                      rcases HH3.out h1 h2 with ⟨e1, e2, e3⟩ | ⟨e1, e2, e3, _⟩
                      · exact ⟨(low_even HKX.out).2 e1, HJ0.out h1 h2, e2, e3⟩
                      · exfalso
                        have hw := HI3.out.wh
                        rw [e2, e3, mv_zero] at hw
                        have hk1 : k ≠ 0 := fun h0 => by
                          have := (low_even HKX.out).1 h0
                          rw [e1] at this
                          cases this
                        clear HKX HXM e1 e2 e3
                        omega)
                    go_upto_block 4 with fail
                    go_cut [21] (fun s21 wx => New wr wx ∧ ∃ d : Nat, s21 = .int .u64 d ∧ d < 18446744073709551616 ∧ (j = 0 → k = 0 → (d = 0 ↔ hits s.ends a n s.ne)))
                    case first =>
                      as_aux_lemma =>
                        have A3 := HA.out.new HN3.out
                        cases cv
                        · by_cases hk0 : k = 0
                          · subst hk0
                            have HE := hidden (ends_any E a' n' s.ne s.ends s.ru s.rd wr A3.c4 A3.c5 A3.c6 A3.c9 HO.out.ne HO.out.ends ha' hn')
                            clear A3
                            go_wp2_with (go_at_call 14; refine HE.out.mono ?_; rintro e w14 ⟨d, ⟨v, rfl⟩, hw14, hd, hdh⟩; have HD := hidden hdh; clear hdh)
                            go_meet
                            refine ⟨hw14, d, rfl, hd, fun h0 _ => ?_⟩
                            obtain ⟨rfl, rfl, _⟩ := HJ.out h0
                            exact HD.out hn1
                          · have hk0z : (0 : Int) < k := by omega
                            have d0 := A3.c0
                            obtain ⟨t, ht, htb⟩ : ∃ t : Nat, IntKind.u64.wrap ((s.key : Int) * 2 ^ k) = (t : Int) ∧ t < 18446744073709551616 := by
                              refine ⟨(IntKind.u64.wrap ((s.key : Int) * 2 ^ k)).toNat, ?_, ?_⟩ <;> rw [IntKind.wrap_u64] <;> omega
                            have HE := hidden (walkTo_any E t a' n' s.ru s.rd k wr A3.c4 A3.c5 htb ha' hn')
                            clear A3
                            go_wp2_with (go_at_call 13; refine HE.out.mono ?_; rintro e w14 ⟨d, ⟨v, rfl⟩, hw14, hd, hdh⟩; have hw8 := hw14.symm; subst hw8; clear hdh)
                            go_meet
                            exact ⟨Chg.refl _ _, d, rfl, hd, fun _ h0 => absurd h0 hk0⟩
                        · go_wp2_with fail
                          go_meet
                          refine ⟨Chg.refl _ _, 0, rfl, by omega, fun h0 => ?_⟩
                          have := HCV.out
                          simp only [decide_eq_true_eq] at this
                          omega
                    case rest =>
                      as_aux_lemma =>
                        obtain ⟨hN5, d, rfl, hd, hdh⟩ := hcut
                        have HN5 := hidden (New.trans HN3.out hN5)
                        have HB5 : Hid (wc.heap[w.heap.size + 1]? = some (.cells #[.int .u64 eh', .int .u64 el'] 28)) := hidden (by
                          have hB := HB3.out
                          rw [hN5.block _ (Array.getElem?_eq_some_iff.1 hB).1 (fun f => f)]
                          exact hB)
                        have HD := hidden hdh
                        clear hN5 hdh HN3 HB3
                        have A5 := HA.out.new HN5.out
                        have d10 := A5.c10
                        have d11 := A5.c11
                        go_upto_if 121 with fail
                        go_cut [21] (fun s21 wx => wx = wc ∧ ∃ d' : Nat, s21 = .int .u64 d' ∧ d' < 18446744073709551616 ∧ (d' = 0 ↔ d = 0))
                        case first =>
                          as_aux_lemma =>
                            cases hli : s.li
                            · rw [hli] at d10
                              go_wp2_with fail
                              go_meet
                              exact ⟨rfl, d, rfl, hd, Iff.rfl⟩
                            · rw [hli] at d10
                              have ST := hidden (steered_any E s.win j wc d11 HO.out.win (by omega))
                              have PR := fun r (hr : r < 18446744073709551616) => hidden (priced_any d r hd hr wc)
                              go_wp2_with (first
                                | (go_at_call 16; refine ST.out.mono ?_; rintro e w16 ⟨r, rfl, hw16, hr⟩; have hw8 := hw16.symm; subst hw8)
                                | (go_at_call 15; refine (PR _ hr).out.mono ?_; rintro e w15 ⟨d', rfl, hw15, hd1, hd2⟩; have hw8 := hw15.symm; subst hw8))
                              go_meet
                              exact ⟨rfl, d', rfl, hd1, hd2⟩
                        case rest =>
                          obtain ⟨rfl, d', rfl, hd', hdd⟩ := hcut
                          have HDD := hidden hdd
                          clear hdd d10 d11
                          have dk := A5.v l k (by omega) (by omega)
                          have hv1 := HO.out.rv1 l k
                          obtain ⟨v, hv⟩ : ∃ v, s.rv l k = v := ⟨_, rfl⟩
                          rw [hv] at dk hv1
                          have hkz : (k : Int) < (l : Int) + 1 := by omega
                          have hlz : l < s.steps + 2 := by omega
                          clear hv
                          by_cases hvd : v ≤ d'
                          ·
                            as_aux_lemma =>
                              have hvz : (v : Int) ≤ d' := by omega
                              clear A5
                              go_wp2_with fail
                              go_meet
                              refine ⟨eh', el', W', h', rfl, rfl, hjW', by rw [hl], HN5.out, HB5.out, HI3.out, fun h1 h2 => ?_⟩
                              exfalso
                              obtain ⟨e1, e2, _⟩ := HF.out h1 h2
                              have e3 := HDD.out.2 ((HD.out e2 e1).2 h1)
                              rw [e3] at hvd
                              exact absurd hv1 (Nat.not_le_of_lt (Nat.lt_succ_of_le hvd))
                          ·
                            as_aux_lemma =>
                              have hvz : ¬ (v : Int) ≤ d' := by omega
                              have d1 := A5.c1
                              have d2 := A5.c2
                              have hq1 := HO.out.q1
                              have hq2 := HO.out.q2
                              obtain ⟨hi, lo, hml, hhi, hlo, MU⟩ := mul64e s.q d' (by have := Nat.pow_le_pow_right (n := 2) (by omega) hst2; omega) hd'
                              have hkm := low_lt HKX.out HXM.out
                              obtain ⟨th, tl, eth, etl, hth, htl, hge, hzz⟩ := term_of s.steps k j s.q d' hi lo hst2 (by omega) (by omega) hq1 hq2 hd' hml hlo
                              have HGE := hidden hge
                              have HZZ := hidden hzz
                              clear hml hq2 A5 hge hzz
                              have B0 := HB5.out
                              have hBw : w.heap.size + 1 < wc.heap.size := (Array.getElem?_eq_some_iff.1 B0).1
                              have b0 : wc.cell? ⟨w.heap.size + 1, 0, none⟩ = some (.int .u64 eh') := by simp [World.cell?, B0]
                              have b1 : wc.cell? ⟨w.heap.size + 1, 1, none⟩ = some (.int .u64 el') := by simp [World.cell?, B0]
                              clear B0
                              have LE := hidden (less_any th tl eh' el' (wc.alloc (.cells #[.int .u64 th, .int .u64 tl] 28)))
                              go_upto_if 173 with (first
                                | (go_at_call 17; refine (MU _).out.mono ?_; rintro e w17 ⟨rfl, hw17⟩; have hw8 := hw17.symm; subst hw8)
                                | (go_at_call 6; refine LE.out.mono ?_; rintro e w6 ⟨rfl, hw6⟩))
                              have hT6 : w6.heap[wc.heap.size]? = some (.cells #[.int .u64 th, .int .u64 tl] 28) := by
                                rw [hw6.block _ (by rw [Go.Deep.nblk_alloc]; omega) (fun f => f)]
                                exact Go.Deep.blk_alloc_new _ _
                              have hN6 : New w w6 := New.trans (HN5.out.alloc _) hw6
                              have hB6 : w6.heap[w.heap.size + 1]? = some (.cells #[.int .u64 eh', .int .u64 el'] 28) := by
                                rw [hw6.block _ (by rw [Go.Deep.nblk_alloc]; omega) (fun f => f), Go.Deep.blk_alloc_lt _ _ _ hBw]
                                exact HB5.out
                              have HT6 := hidden hT6
                              have HN6 := hidden hN6
                              have HB6 := hidden hB6
                              clear hT6 hN6 hB6 hw6 b0 b1 LE MU eth etl dk d1 d2
                              have HT0 : Hid (hits s.ends a n s.ne → ¬ (bh = 0 ∧ bl = 0) → th = 0 ∧ tl = 0 ∧ k = 0 ∧ eh' = bh ∧ el' = bl) := hidden (fun h1 h2 => by
                                obtain ⟨e1, e2, e4, e5⟩ := HF.out h1 h2
                                have e3 := HDD.out.2 ((HD.out e2 e1).2 h1)
                                obtain ⟨g1, g2⟩ := HZZ.out.2 ⟨by rw [e1, e2], e3⟩
                                exact ⟨g1, g2, e1, e4, e5⟩)
                              cases hls : less th tl eh' el'
                              ·
                                as_aux_lemma =>
                                  go_wp2_with fail
                                  go_meet
                                  refine ⟨eh', el', W', h', rfl, rfl, hjW', by rw [hl], HN6.out, HB6.out, HI3.out, fun h1 h2 => ?_⟩
                                  exfalso
                                  have h2' : ¬ (bh = 0 ∧ bl = 0) := by first | exact h2 | exact fun h => h2 h.1 h.2
                                  obtain ⟨g1, g2, _, g4, g5⟩ := HT0.out h1 h2'
                                  rw [g1, g2, g4, g5, less_zero h2'] at hls
                                  cases hls
                              ·
                                as_aux_lemma =>
                                  have HLS := hidden hls
                                  clear hls
                                  obtain ⟨W2, hW2⟩ : ∃ W2, mv s.steps th tl = W2 := ⟨_, rfl⟩
                                  have hj2 : j ≤ W2 := by
                                    have := mv_ge s.steps th tl
                                    have := HGE.out
                                    omega
                                  have hW22 : W2 ≤ s.steps + 1 := by
                                    have h1 := mv_mono (st := s.steps) HLS.out
                                    rw [hW2, ← HI3.out.wh] at h1
                                    omega
                                  have HW2 := hidden hW2
                                  have MV := fun w' (h : New w w') => hidden (hW2 ▸ moves_any E s.steps th tl w' (h.cells HA.out.c2) (Nat.lt_of_lt_of_le hE h.size) hst1 hst2 hth)
                                  clear hW2
                                  have T0 := HT6.out
                                  have t0 : w6.cell? ⟨wc.heap.size, 0, none⟩ = some (.int .u64 th) := by simp [World.cell?, T0]
                                  have t1 : w6.cell? ⟨wc.heap.size, 1, none⟩ = some (.int .u64 tl) := by simp [World.cell?, T0]
                                  clear T0
                                  have hTB : ¬ w.heap.size + 1 = wc.heap.size := by omega
                                  have hTB' : ¬ wc.heap.size = w.heap.size + 1 := by omega
                                  go_upto_region 30 with fail
                                  go_region_held3 (fun w' => w'.cell? ⟨wc.heap.size, 0, none⟩ = some (.int .u64 th) ∧ w'.cell? ⟨wc.heap.size, 1, none⟩ = some (.int .u64 tl)) (go_keep) (first
                                    | (go_at_call 9; refine (MV _ HN6.out.drew).out.mono ?_; rintro e w9 ⟨rfl, hw9⟩; have t09 := hw9.cells (show w6.drew.cell? ⟨wc.heap.size, 0, none⟩ = _ from t0); have t19 := hw9.cells (show w6.drew.cell? ⟨wc.heap.size, 1, none⟩ = _ from t1); have HB9 := hidden ((hw9.block _ (Array.getElem?_eq_some_iff.1 HB6.out).1 (fun f => f)).trans HB6.out); have HN9 := hidden (New.trans HN6.out.drew hw9); have B9 := HB9.out; have b09 : w9.cell? ⟨w.heap.size + 1, 0, none⟩ = some (.int .u64 eh') := (by simp [World.cell?, B9]); have b19 : w9.cell? ⟨w.heap.size + 1, 1, none⟩ = some (.int .u64 el') := (by simp [World.cell?, B9]); have bf0 : w9.frozen? ⟨w.heap.size + 1, 0, none⟩ = false := (by simp [World.frozen?, B9]); have bf1 : w9.frozen? ⟨w.heap.size + 1, 1, none⟩ = false := (by simp [World.frozen?, B9]); clear B9 hw9))
                                  clear t09 t19 b09 b19 bf0 bf1 t0 t1
                                  generalize hwz : (w9.setCell ⟨w.heap.size + 1, 0, none⟩ (.int .u64 th)).setCell ⟨w.heap.size + 1, 1, none⟩ (.int .u64 tl) = wZ
                                  have hNZ : New w wZ := by
                                    rw [← hwz]
                                    exact (HN9.out.setCell (.inr (by simp only []; omega)) _).setCell (.inr (by simp only []; omega)) _
                                  have hBZ : wZ.heap[w.heap.size + 1]? = some (.cells #[.int .u64 th, .int .u64 tl] 28) := by
                                    rw [← hwz]
                                    exact set2 _ _ _ _ _ _ _ HB9.out
                                  have AZ := HA.out.new hNZ
                                  have z3 := AZ.c3
                                  obtain ⟨l2, hl2⟩ : ∃ l2 : Nat, (W2 : Int) - j = l2 := ⟨W2 - j, by omega⟩
                                  have z4 := AZ.r l2 (by omega)
                                  have hlz2 : (l2 : Int) < s.steps + 2 := by omega
                                  have HNZ := hidden hNZ
                                  have HBZ := hidden hBZ
                                  clear hwz hNZ hBZ AZ
                                  go_wp2_with fail
                                  go_meet
                                  refine ⟨th, tl, W2, k, rfl, rfl, hj2, by rw [show W2 - j = l2 by omega], HNZ.out, HBZ.out, ⟨HW2.out.symm, hW22, hth, htl, .inr ⟨by omega, by omega, ?_⟩, fun h1 h2 => ?_⟩, fun h1 h2 => ?_⟩
                                  · rcases HI3.out.st with ⟨_, e1, e2⟩ | ⟨_, _, e1⟩
                                    · rw [← e1, ← e2]; exact HLS.out
                                    · exact less_trans HLS.out e1
                                  · obtain ⟨e1, e2⟩ := HZZ.out.1 h2
                                    have e3 := HDD.out.1 e2
                                    exact h1 (.inl ((HD.out (by omega) (by omega)).1 e3))
                                  · have h2' : ¬ (bh = 0 ∧ bl = 0) := by first | exact h2 | exact fun h => h2 h.1 h.2
                                    obtain ⟨e1, e2, e3, _⟩ := HT0.out h1 h2'
                                    exact ⟨e1, e2, by rw [e3]; rfl⟩
                case rest =>
                  as_aux_lemma =>
                    obtain ⟨eh2, el2, W2, h2, rfl, rfl, hj2, rfl, hN4, hB4, hI4, hE4⟩ := hcut
                    obtain ⟨l2, hl2⟩ : ∃ l, W2 - j = l := ⟨_, rfl⟩
                    rw [hl2]
                    obtain ⟨y, hy⟩ : ∃ y, x - 1 = y := ⟨_, rfl⟩
                    have hyz : ((x : Int) - 1) % 4294967296 = (y : Int) := by omega
                    have hand := u32_and_nat x y hx32 (by omega)
                    obtain ⟨hz1, hz2⟩ := next_set x (by omega)
                    rw [hy] at hz1 hz2
                    obtain ⟨z, hz⟩ : ∃ z, x &&& y = z := ⟨_, rfl⟩
                    rw [hz] at hand hz1 hz2
                    rw [show (y : Int) = (x : Int) - 1 by omega] at hand
                    rw [show (y : Int) = (x : Int) - 1 by omega] at hyz
                    have HE4 := hidden hE4
                    have HI4 := hidden hI4
                    have HN4 := hidden hN4
                    have HB4 := hidden hB4
                    clear hE4 hI4 hN4 hB4 hy hz
                    go_wp2_with fail
                    go_roundg z
                    case measure => omega
                    case rel => exact ⟨z, eh2, el2, W2, h2, rfl, rfl, rfl, rfl, hj2, by rw [hl2], Nat.lt_trans hz1 HXM.out, Nat.lt_trans hz1 hx32, HN4.out, HB4.out, HI4.out, fun h1 h2 => .inr ⟨hz2, HE4.out h1 h2⟩⟩
end Go.Proofs.YbulkcjdgDoor
