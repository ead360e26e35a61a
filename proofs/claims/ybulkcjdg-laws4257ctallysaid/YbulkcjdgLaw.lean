import Derived.Test.YbulkcjdgLaw3
namespace Go.Proofs.Ybulkcjdg
open Go.RowKit
set_option linter.unusedVariables false
set_option linter.unusedSimpArgs false

set_option maxRecDepth 100000 in
set_option maxHeartbeats 4000000 in
theorem law_walk (w : World) (sa aa ra ma ba za ia : Option Addr) (sl sc al ac rl rc ml mc bl bc zl zc il ic : Nat) (S : List (List Int)) (A Rc : List Bool) (M : List Int) (Bq Zq : List Bool) (I : List Int) (h : LI w sa aa ra ma ba za ia sl al rl ml bl zl il S A Rc M Bq Zq I) (hil : il ≤ 1024)
    (x0 x2 : Nat) (lo : Int) (s t : Nat) (hs : s < 8) (ht : t < 41) (es : (x0 : Int) % 8 = s) (et : (x2 : Int) % 41 = t) (hx0 : x0 ≤ 255) (hx2 : x2 ≤ 255) (lo1 : -128 ≤ lo) (lo2 : lo ≤ 127) (ub : Bool) :
    Calls Yba.prog 5 #[.int .u8 x0, .int .i8 lo, .int .u8 x2, .slice sa sl sc, .slice aa al ac, .slice ra rl rc, .slice ma ml mc, .slice ba bl bc, .slice za zl zc, .bool ub, .slice ia il ic] w fun e w' => e = .returned (.bool true) ∧ Below w.heap.size w w' := by
  have hmk := run_make_row' (P := Yba.prog) 54 4 (.bool false) 1 Yba.underlying54 Yba.info4 rfl .i64 .i64 8 (by omega) (by omega)
  rw [show ((8 : Nat) : Int) = 8 from rfl] at hmk
  have HH := hidden h
  have hL0 := L1.start w Bq Zq
  have hdil : decide ((1024 : Int) < (il : Int)) = false := by simp; omega
  have ES := hidden es
  have ET := hidden et
  clear h es et
  go_enter Yba.func5, Yba.ntmps5
  go_wp2_with fail
  generalize (w.alloc (.cells (madeCells #[.bool false] 8) 4)).alloc (.cells (madeCells #[.bool false] 8) 4) = ws at hL0 ⊢
  clear hmk
  go_loopg [28] 8 (fun g v wr => ∃ k : Nat, g + k = 8 ∧ v = .int .i64 k ∧ L1 w Bq Zq k wr)
  case atStart => exact ⟨0, rfl, rfl, hL0⟩
  case round =>
    obtain ⟨k, hgk, rfl, hL⟩ := hrel
    clear hL0
    by_cases hk : k < 8
    · have HL := hidden hL
      have cb := hL.bad.cell (i := k) hk
      have cz := hL.byz.cell (i := k) hk
      have fb := hL.bad.frozen k
      have fz := hL.byz.frozen k
      obtain ⟨vb, hvb⟩ : ∃ vb, vb = fill Bq k k := ⟨_, rfl⟩
      obtain ⟨vz, hvz⟩ : ∃ vz, vz = fill Zq k k := ⟨_, rfl⟩
      rw [← hvb] at cb
      rw [← hvz] at cz
      have hbel := hL.bel
      have hB : (k < bl ∧ ∃ b o, ba = some ⟨b, o, none⟩ ∧ b < w.heap.size ∧ wr.cell? ⟨b, o + k, none⟩ = some (.bool (Bq.getD k false))) ∨ (bl ≤ k ∧ Bq.getD k false = false) := by
        by_cases hq1 : k < bl
        · rcases HH.out.hBq.row with h | ⟨b, o, e, hb, hc⟩
          · omega
          · exact .inl ⟨hq1, b, o, e, hb, (hbel.cell (p := ⟨b, o + k, none⟩) hb).trans (hc k hq1)⟩
        · exact .inr ⟨by omega, getD_far _ _ _ (by rw [HH.out.hBq.len]; omega)⟩
      have hZ : (k < zl ∧ ∃ b o, za = some ⟨b, o, none⟩ ∧ b < w.heap.size ∧ wr.cell? ⟨b, o + k, none⟩ = some (.bool (Zq.getD k false))) ∨ (zl ≤ k ∧ Zq.getD k false = false) := by
        by_cases hq1 : k < zl
        · rcases HH.out.hZq.row with h | ⟨b, o, e, hb, hc⟩
          · omega
          · exact .inl ⟨hq1, b, o, e, hb, (hbel.cell (p := ⟨b, o + k, none⟩) hb).trans (hc k hq1)⟩
        · exact .inr ⟨by omega, getD_far _ _ _ (by rw [HH.out.hZq.len]; omega)⟩
      clear hvb hvz hL hbel
      obtain ⟨yb, hyb⟩ : ∃ yb, yb = Bq.getD k false := ⟨_, rfl⟩
      obtain ⟨yz, hyz⟩ : ∃ yz, yz = Zq.getD k false := ⟨_, rfl⟩
      have HST := hidden HL.out.step
      rw [← hyb] at hB HST
      rw [← hyz] at hZ HST
      clear hyb hyz HL
      rcases hB with ⟨hkb, b, o, rfl, hbw, hbc⟩ | ⟨hkb, rfl⟩
      all_goals
        rcases hZ with ⟨hkz, b', o', rfl, hbw', hbc'⟩ | ⟨hkz, rfl⟩
        all_goals
          as_aux_lemma =>
            go_wp2_with fail
            go_roundg (7 - k)
            case measure => omega
            case rel => exact ⟨k + 1, by omega, by go_num, HST.out⟩
    · have hL8 : L1 w Bq Zq 8 wr := (show k = 8 by omega) ▸ hL
      have HP := hidden (P1.start hL8 lo (.slice sa sl sc) (.slice aa al ac))
      have hsz := hL8.size
      clear hL hL8
      go_upto_if 100 with fail
      go_cut [23, 25] from 44 (fun a b wc => a = .int .i64 s ∧ b = .int .i64 (lo + t - 4) ∧ P1 w Bq Zq lo (.slice sa sl sc) (.slice aa al ac) (if ub = true then .slice (some ⟨w.heap.size + 1, 0, none⟩) 8 8 else .slice none 0 0) wr.heap.size wc)
      case first =>
        as_aux_lemma =>
          cases ub
          · go_wp2_with fail
            go_meet
            case rel => exact ⟨by rw [ES.out], by rw [ET.out], HP.out _⟩
          · go_wp2_with fail
            go_meet
            case rel => exact ⟨by rw [ES.out], by rw [ET.out], HP.out _⟩
      case rest =>
        obtain ⟨rfl, rfl, hp1⟩ := hcut
        obtain ⟨w4, rfl⟩ : ∃ w4 : World, w4 = wc := ⟨_, rfl⟩
        have q56 : ∀ (w : World) (a : Option Addr) (n c n' c' : Nat), (binOp .neq 56 (.slice a n c) (.slice none n' c')).run Yba.prog w = .ok (.bool (!a.isNone)) w := fun w a n c n' c' => run_neq_slice_nil_any w _ _ a n c n' c' Yba.underlying56
        have hmi := run_make_row' (P := Yba.prog) 25 3 (.int .i64 0) 8 Yba.underlying25 Yba.info3 rfl .i64 .i64 il (by omega) (by omega)
        obtain ⟨T, hT⟩ : ∃ T, T = wr.heap.size := ⟨_, rfl⟩
        obtain ⟨zv, hzv⟩ : ∃ zv, zv = (if ub = true then Value.slice (some ⟨w.heap.size + 1, 0, none⟩) 8 8 else .slice none 0 0) := ⟨_, rfl⟩
        rw [← hT, ← hzv] at hp1
        have HZV := hidden hzv
        have HP1 := hidden hp1
        clear hp1 HP ES ET hsz hgk hk hzv
        rw [← hT]
        clear hT
        go_upto_if 111 with fail
        go_cut [32, 33] from 44 (fun vin j wc => P2 w Bq Zq lo (.slice sa sl sc) (.slice aa al ac) zv (.slice ra rl rc) (.slice ma ml mc) T w4.heap.size vin I wc)
        case first =>
          as_aux_lemma =>
            cases ia with
            | none =>
              have hI0 : I = [] := List.eq_nil_of_length_eq_zero (by rw [HH.out.ilen]; exact HH.out.inil rfl)
              go_wp2_with fail
              go_meet
              case rel => exact P2.none_ HP1.out hI0
            | some ia =>
              have hL2 := L2.start (rv := .slice ra rl rc) (mv := .slice ma ml mc) (I := I) HP1.out il HH.out.ilen.symm
              have HIL := hidden HH.out.ilen
              go_wp2_with fail
              generalize (w4.alloc (.cells #[.pointer (some ⟨T + 1, 0, none⟩), .slice ra rl rc, .slice ma ml mc, .int .i64 0, .slice none 0 0, .slice none 0 0, .bool false] 68)).alloc (.cells (madeCells #[.int .i64 0] il) 3) = ws2 at hL2 ⊢
              clear hmi q56
              go_loopg [33] il (fun g v wr => ∃ k : Nat, g + k = il ∧ v = .int .i64 k ∧ L2 w Bq Zq lo (.slice sa sl sc) (.slice aa al ac) zv (.slice ra rl rc) (.slice ma ml mc) T w4.heap.size (w4.heap.size + 1) I k wr)
              case atStart => exact ⟨0, by omega, rfl, hL2⟩
              case round =>
                obtain ⟨k, hgk, rfl, hL⟩ := hrel
                clear hL2
                by_cases hk : k < il
                · have HL := hidden hL.step
                  have hkI : k < I.length := by rw [HIL.out]; exact hk
                  have cb := hL.row.cell (i := k) hkI
                  have fb := hL.row.frozen k
                  obtain ⟨vb, hvb⟩ : ∃ vb, vb = (if k < k then I.getD k 0 else 0) := ⟨_, rfl⟩
                  rw [← hvb] at cb
                  rcases HH.out.irow with h0 | ⟨b, o, e, hbw, hc⟩
                  · omega
                  cases e
                  have hbc : wr.cell? ⟨b, o + k, none⟩ = some (.int .i8 (I.getD k 0)) := (hL.p1.bel.cell (p := ⟨b, o + k, none⟩) hbw).trans (hc k hk)
                  have hIb := HH.out.ibd (I.getD k 0) (by simp [hkI])
                  obtain ⟨y, hy⟩ : ∃ y, y = I.getD k 0 := ⟨_, rfl⟩
                  rw [← hy] at hbc hIb HL
                  obtain ⟨hy1, hy2⟩ := hIb
                  clear hvb hc hy hkI hL
                  go_wp2_with fail
                  go_roundg (il - 1 - k)
                  case measure => omega
                  case rel => exact ⟨k + 1, by omega, by go_num, HL.out⟩
                · have hke : k = I.length := by rw [HIL.out]; omega
                  have HD := hidden ((hke ▸ hL).done (by rw [HIL.out]; omega) il HIL.out.symm)
                  clear hL hke
                  go_wp2_with fail
                  go_meet
                  case rel => exact HD.out
        case rest =>
          obtain ⟨w5, rfl⟩ : ∃ w5 : World, w5 = wc := ⟨_, rfl⟩
          have HP2 := hidden hcut
          have hI6 : I.length ≤ 1000000 := by rw [HH.out.ilen]; omega
          have HCL := hidden (clone_any hcut.own hI6)
          obtain ⟨R, hR⟩ : ∃ R, R = w4.heap.size := ⟨_, rfl⟩
          rw [← hR] at HP2
          clear hcut hmi q56 HP1
          rw [← hR]
          clear hR
          obtain ⟨vin, hvin⟩ : ∃ vin, vin = u32 := ⟨_, rfl⟩
          subst hvin
          go_wp2_with (go_at_call 16; refine HCL.out.mono ?_; rintro e w7 ⟨vC, rfl, hC1, hC2⟩)
          have hGiv := HP2.out.given (w5 := w7) HH.out lo1 lo2 hC2
          have HBd := hidden (fun W (hW : Below w7.heap.size w7 W) => HP2.out.bad (ub := ub) HZV.out s hs W (hC2.trans (hW.mono hC2.size)))
          have HSE := hidden (search_any (src := (s : Int)) hGiv (lo + t - 4) (t - 4) (by omega) (by omega) (by omega) (by omega) (badB ub Bq Zq s) HBd.out)
          have HGV := hidden hGiv
          clear hGiv HBd HCL
          refine HSE.out.mono ?_
          rintro e w6 ⟨vp, lp, rfl, HLP, hO6, hat6, ⟨vD, vP, pv, hr6⟩, hc6⟩
          clear HSE
          have hRv : ∀ k, k ≤ R → ¬ (vin.ownBlock = some k) := fun k hk e => by have := HP2.out.inX k e; omega
          have hTn := HP2.out.p1.tN
          have hRt := HP2.out.rT
          have hRs := HP2.out.size
          have hkeep : ∀ k, k < R → w6.heap[k]? = w5.heap[k]? := fun k hk => (hc6.block k (by have := hC2.size; omega) (fun h => by rcases h with h | h; omega; exact hRv k (by omega) h)).trans (hC2.block k (by omega))
          have bs6 : w6.cell? ⟨w.heap.size, s, none⟩ = some (.bool (Bq.getD s false)) := (HP2.out.p1.bad.of_block (hkeep _ (by omega))).cell hs
          have zs6 : w6.cell? ⟨w.heap.size + 1, s, none⟩ = some (.bool (Zq.getD s false)) := (HP2.out.p1.byz.of_block (hkeep _ (by omega))).cell hs
          have hC6 : OwnI w.heap.size w6 vC I := by
            have h1 : OwnI w5.heap.size w6 vC I := hc6.own hC1 (fun k hk e => by
              have h9 := hC1.below k hk
              rcases e with e | e
              · omega
              · have := HP2.out.own.lt k e; omega)
            have hb := h1.below
            refine ⟨h1.1, ?_⟩
            rcases h1.2 with h2 | ⟨g, cap, cur, rfl, hbg, r⟩
            · exact .inl h2
            · exact .inr ⟨g, cap, cur, rfl, by have := HP2.out.p1.bel.size; omega, r⟩
          have hB6 : Below w.heap.size w w6 := HP2.out.p1.bel.trans ((hC2.mono HP2.out.p1.bel.size).trans (hc6.below (B := w.heap.size) (fun k hk => by rcases hk with rfl | hk; omega; have := HP2.out.inX k hk; omega) (by have := HP2.out.p1.bel.size; have := hC2.size; omega)))
          have hbl6 : w.heap.size + 2 ≤ w6.heap.size := by have := hc6.size; have := hC2.size; omega
          have hR6 : R < w6.heap.size := by have := hc6.size; have := hC2.size; omega
          have HR6 := hidden hr6
          have HC6 := hidden hC6
          have HO6 := hidden hO6
          have HB6 := hidden hB6
          clear hr6 hc6 hC6 hO6 hB6 hkeep hC1 hC2 hat6 HGV
          obtain ⟨ta, hta⟩ : ∃ ta : Int, ta = (tR (badB ub Bq Zq s) Rc (t - 4) : Nat) := ⟨_, rfl⟩
          obtain ⟨tb, htb⟩ : ∃ tb : Int, tb = (tM S A s lo (t - 4) : Nat) := ⟨_, rfl⟩
          obtain ⟨tc, htc⟩ : ∃ tc : Int, tc = tG M (t - 4) := ⟨_, rfl⟩
          obtain ⟨td, htd⟩ : ∃ td : Int, td = (tU S A s lo (t - 4) : Nat) := ⟨_, rfl⟩
          rw [← hta, ← htb, ← htc, ← htd]
          have HTA := hidden hta
          have HTB := hidden htb
          have HTC := hidden htc
          have HTD := hidden htd
          obtain ⟨yb, hyb⟩ : ∃ yb, yb = Bq.getD s false := ⟨_, rfl⟩
          obtain ⟨yz, hyz⟩ : ∃ yz, yz = Zq.getD s false := ⟨_, rfl⟩
          rw [← hyb] at bs6
          rw [← hyz] at zs6
          have HBAD : Hid (badB ub Bq Zq s = if ub = true then yz else yb) := by show _ = _; rw [hyb, hyz]; rfl
          have bs7 : ∀ o, (w6.alloc o).cell? ⟨w.heap.size, s, none⟩ = some (.bool yb) := fun o => (((Below.refl w6.heap.size w6).alloc (Nat.le_refl _) o).cell (p := ⟨w.heap.size, s, none⟩) (by show w.heap.size < _; omega)).trans bs6
          have zs7 : ∀ o, (w6.alloc o).cell? ⟨w.heap.size + 1, s, none⟩ = some (.bool yz) := fun o => (((Below.refl w6.heap.size w6).alloc (Nat.le_refl _) o).cell (p := ⟨w.heap.size + 1, s, none⟩) (by show w.heap.size + 1 < _; omega)).trans zs6
          clear hta htb htc htd hyb hyz bs6 zs6
          go_upto_if 147 with fail
          go_cut [37] from 44 (fun v wc => v = .bool (badB ub Bq Zq s) ∧ wc = w6.alloc (.cells #[.int .i64 ta, .int .i64 tb, .int .i64 tc, .int .i64 td] 71))
          case first =>
            as_aux_lemma =>
              cases ub
              · go_wp2_with fail
                go_meet
                case rel => exact ⟨by rw [HBAD.out]; rfl, rfl⟩
              · go_wp2_with fail
                go_meet
                case rel => exact ⟨by rw [HBAD.out]; rfl, rfl⟩
          case rest =>
            obtain ⟨rfl, rfl⟩ := hcut
            clear bs7 zs7 HBAD HZV
            go_upto_if 156 with fail
            go_cut [38] from 44 (fun v wc => v = .int .i64 ((t - 4 : Nat) : Int) ∧ wc = w6.alloc (.cells #[.int .i64 ta, .int .i64 tb, .int .i64 tc, .int .i64 td] 71))
            case first =>
              as_aux_lemma =>
                by_cases ht4 : t < 4
                · go_wp2_with fail
                  go_meet
                  case rel => exact ⟨by rw [show t - 4 = 0 by omega]; rfl, rfl⟩
                · go_wp2_with fail
                  go_meet
                  case rel => exact ⟨congrArg (Value.int .i64) (by omega), rfl⟩
            case rest =>
              obtain ⟨rfl, rfl⟩ := hcut
              have hrd0 := HR6.out.read ((Below.refl w6.heap.size w6).alloc (Nat.le_refl _) (.cells #[.int .i64 ta, .int .i64 tb, .int .i64 tc, .int .i64 td] 71))
              have hDn : (dsts lo (t - 4)).length = t - 4 := by simp [dsts]
              obtain ⟨aD, cD, hvD⟩ := HR6.out.dst.slice
              obtain ⟨aP, cP, hvP⟩ := owns_slice HR6.out.pth
              rw [hDn] at hvD
              obtain ⟨n, hn⟩ : ∃ n, n = t - 4 := ⟨_, rfl⟩
              rw [← hn] at hvD hvP hrd0 HR6 HLP HTA HTB HTC HTD hDn
              have hn1 : n ≤ 40 := by omega
              have hhi1 : lo + (t : Int) - 4 ≤ lo + n := by omega
              have hhi2 : 0 < n → lo + (n : Int) ≤ lo + t - 4 := by omega
              subst hvD
              subst hvP
              have r4 := (show (w6.alloc (.cells #[.int .i64 ta, .int .i64 tb, .int .i64 tc, .int .i64 td] 71)).cell? ⟨R, 4, none⟩ = some (.slice aD n cD) by simp [World.cell?, hrd0.blk])
              have r5 := (show (w6.alloc (.cells #[.int .i64 ta, .int .i64 tb, .int .i64 tc, .int .i64 td] 71)).cell? ⟨R, 5, none⟩ = some (.slice aP n cP) by simp [World.cell?, hrd0.blk])
              have r6 := (show (w6.alloc (.cells #[.int .i64 ta, .int .i64 tb, .int .i64 tc, .int .i64 td] 71)).cell? ⟨R, 6, none⟩ = some (.bool false) by simp [World.cell?, hrd0.blk])
              have hst := LW.start (tt := #[.int .i64 ta, .int .i64 tb, .int .i64 tc, .int .i64 td]) HC6.out
              rw [← hn]
              clear hrd0 hn
              go_wp2_with fail
              generalize (w6.alloc (.cells #[.int .i64 ta, .int .i64 tb, .int .i64 tc, .int .i64 td] 71)).alloc (.cells #[.int .i64 0, .int .i64 0, .int .i64 0, .int .i64 0] 71) = wl at hst ⊢
              obtain ⟨bad, hbad⟩ : ∃ bad, bad = badB ub Bq Zq s := ⟨_, rfl⟩
              rw [← hbad] at HTA
              rw [← hbad]
              clear hbad r4 r5 r6
              go_loopg [40, 41, 42] n (fun k v cl dd wr => ∃ (q : Nat) (l : List Int), k + q = n ∧ cl = .int .i64 q ∧ dd = .int .i64 (lo + q) ∧ LW w6 w.heap.size #[.int .i64 ta, .int .i64 tb, .int .i64 tc, .int .i64 td] v l (tR bad Rc q : Nat) (tM S A s lo q : Nat) (tG M q) (tU S A s lo q : Nat) wr ∧ Hid (l = lastP S A s lo I q))
              case atStart => exact ⟨0, I, by omega, rfl, by simp, hst, rfl⟩
              case round =>
                obtain ⟨q, l, hkq, rfl, rfl, hlw, HL⟩ := hrel
                clear hst
                by_cases hqn : q < n
                · have hlt : lo + (q : Int) < lo + t - 4 := by have := hhi2 (by omega); omega
                  clear hhi1 hhi2
                  have hBw : Below w.heap.size w wr := HB6.out.trans (hlw.bel.mono (by omega))
                  obtain ⟨l', hl'⟩ : ∃ l', l' = rt S A s q (lo + q) := ⟨_, rfl⟩
                  have HC := hidden <| route_any w.heap.size (.slice none 0 0) q sl sc al ac lo s w wr lo1 lo2 (by omega) hBw (by have := hlw.size; omega) (OwnI.nil _ _) sa aa S A (HH.out.hS q) HH.out.hA
                  rw [← hl'] at HC
                  have hlen := rt_len S A s q (lo + q)
                  rw [← hl'] at hlen
                  obtain ⟨hl1, hl2⟩ := hlen
                  have HLW := hidden hlw
                  have HL' := hidden hl'
                  have hU := tU_le S A s lo q
                  have hMv := tM_le S A s lo q
                  have hRl := tR_le bad Rc q
                  have hGl := tG_le M HH.out.mbd q
                  obtain ⟨hG1, hG2⟩ := hGl
                  have hU1 : Hid (tU S A s lo (q + 1) = tU S A s lo q + if l'.getD (l'.length - 1) 0 = lo + q then 0 else 1) := by show _ = _; rw [HL'.out]; rfl
                  obtain ⟨la, hla⟩ : ∃ la, la = l'.getD (l'.length - 1) 0 := ⟨_, rfl⟩
                  rw [← hla] at hU1
                  have HLA := hidden hla
                  clear hlw hl' hla hBw HL
                  go_upto_if 199 with (go_at_call 18; refine HC.out.mono ?_; rintro e w9 ⟨v1, rfl, hO1, hM1⟩; obtain ⟨g, cap, hv1, _, _⟩ := hO1.form hl1; subst hv1; have hlw1 := HLW.out.route hM1 hO1; have hcl : w9.cell? ⟨g, l'.length - 1, none⟩ = some (.int .i64 la) := (by rw [HLA.out]; exact hO1.cell _ (by omega)); obtain ⟨c0, c1, c2, c3, cf⟩ := hlw1.cells; have cf3 := cf 3; have HLW1 := hidden hlw1; clear hlw1 c0 c1 c2 cf hO1 hM1)
                  go_cut [] from 181 to 264 (fun wd => LW w6 w.heap.size #[.int .i64 ta, .int .i64 tb, .int .i64 tc, .int .i64 td] (.slice (some ⟨g, 0, none⟩) l'.length cap) l' (tR bad Rc q : Nat) (tM S A s lo q : Nat) (tG M q) (tU S A s lo (q + 1) : Nat) wd)
                  case first =>
                    as_aux_lemma =>
                      by_cases hll : la = lo + q
                      · subst hll
                        go_wp2_with fail
                        go_meet
                        case rel => rw [hU1.out, if_pos (by trivial)]; exact HLW1.out
                      · have hne : (la != lo + (q : Int)) = true := by simpa using hll
                        go_wp2_with fail
                        go_meet
                        case rel => rw [hU1.out, if_neg hll]; exact HLW1.out.tally 3 _ (by simp)
                  case rest =>
                    clear hcl c3 cf3 HLW1 HC HLW HLA
                    obtain ⟨wd, rfl⟩ : ∃ wd : World, wd = wc := ⟨_, rfl⟩
                    have hM1 : Hid (tM S A s lo (q + 1) = tM S A s lo q + mv l') := by show _ = _; rw [HL'.out]; rfl
                    have hU' := tU_le S A s lo (q + 1)
                    have hml := mv_le l'
                    obtain ⟨c0, c1, c2, c3, cf⟩ := hcut.cells
                    have cf1 := cf 1
                    have HLW1 := hidden hcut
                    have hmc : Hid (∀ j, j < l'.length → wd.drew.cell? ⟨g, j, none⟩ = some (.int .i64 (l'.getD j 0))) := fun j hj => hcut.own.cell j hj
                    clear hcut c0 c2 c3 cf hU1
                    have sd : ∀ (W : World) j x v, (W.drewN j).setCell x v = (W.setCell x v).drewN j := fun _ _ _ _ => rfl
                    have hwr : IntKind.i64.wrap ((tM S A s lo q : Nat) + (mv l' : Nat) : Int) = (tM S A s lo (q + 1) : Nat) := by rw [hM1.out, IntKind.wrap_i64]; omega
                    go_upto_region 44 with fail
                    go_cut [] from 181 to 264 (fun we => LW w6 w.heap.size #[.int .i64 ta, .int .i64 tb, .int .i64 tc, .int .i64 td] (.slice (some ⟨g, 0, none⟩) l'.length cap) l' (tR bad Rc q : Nat) (tM S A s lo (q + 1) : Nat) (tG M q) (tU S A s lo (q + 1) : Nat) we)
                    case first =>
                      as_aux_lemma =>
                        go_region_with (go_at_call 19; refine (moves19 g cap l'.length l' rfl hl1 (by omega) wd.drew hmc.out).mono ?_; rintro e w9 ⟨rfl, mm, rfl⟩)
                        all_goals
                          go_wp2_with fail
                          go_meet
                          case rel => exact (HLW1.out.tally 1 _ rfl).more ⟨rfl, rfl, rfl, Nat.le_refl _, fun _ _ _ => rfl⟩
                    case rest =>
                      clear c1 cf1 HLW1 hmc hwr hM1
                      obtain ⟨we, rfl⟩ : ∃ we : World, we = wc := ⟨_, rfl⟩
                      obtain ⟨mb, hmb⟩ : ∃ mb, mb = M.getD q 0 := ⟨_, rfl⟩
                      have hG9 : Hid (tG M (q + 1) = tG M q + mb) := by show _ = _; rw [hmb]; rfl
                      have hMle := tM_le S A s lo (q + 1)
                      have hmcc : (q < ml ∧ ∃ b o, ma = some ⟨b, o, none⟩ ∧ b < w.heap.size ∧ we.cell? ⟨b, o + q, none⟩ = some (.int .i16 mb) ∧ -32768 ≤ mb ∧ mb ≤ 32767) ∨ (ml ≤ q ∧ mb = 0) := by
                        by_cases hq1 : q < ml
                        · have hmm : M.getD q 0 ∈ M := by
                            have : q < M.length := by rw [HH.out.mlen]; exact hq1
                            simp [this]
                          rcases HH.out.mrow with h | ⟨b, o, e, hb, hc⟩
                          · omega
                          · exact .inl ⟨hq1, b, o, e, hb, by rw [hmb]; exact ((HB6.out.trans (hcut.bel.mono (by omega))).cell (p := ⟨b, o + q, none⟩) hb).trans (hc q hq1), by rw [hmb]; exact (HH.out.mbd _ hmm).1, by rw [hmb]; exact (HH.out.mbd _ hmm).2⟩
                        · exact .inr ⟨by omega, by rw [hmb]; exact getD_far _ _ _ (by rw [HH.out.mlen]; omega)⟩
                      obtain ⟨c0, c1, c2, c3, cf⟩ := hcut.cells
                      have cf2 := cf 2
                      have HLW1 := hidden hcut
                      clear hcut c0 c1 c3 cf hmb
                      go_upto_if 213 with fail
                      go_cut [] from 181 to 264 (fun we => LW w6 w.heap.size #[.int .i64 ta, .int .i64 tb, .int .i64 tc, .int .i64 td] (.slice (some ⟨g, 0, none⟩) l'.length cap) l' (tR bad Rc q : Nat) (tM S A s lo (q + 1) : Nat) (tG M (q + 1)) (tU S A s lo (q + 1) : Nat) we)
                      case first =>
                        as_aux_lemma =>
                          rcases hmcc with ⟨hqm, b, o, rfl, hbw, hbc, hmb1, hmb2⟩ | ⟨hqm, rfl⟩
                          · have hwr : IntKind.i64.wrap (tG M q + mb) = tG M (q + 1) := by rw [hG9.out, IntKind.wrap_i64]; omega
                            have hqm1 : (q : Int) < (ml : Int) := by omega
                            have hq00 : (0 : Int) ≤ (q : Int) := by omega
                            have hbl : b < w6.heap.size + 1 := by omega
                            go_wp2_with fail
                            go_region
                            all_goals
                              go_wp2_with fail
                              go_meet
                              case rel => exact (HLW1.out.tally 2 _ rfl).more ⟨rfl, rfl, rfl, Nat.le_refl _, fun _ _ _ => rfl⟩
                          · have hqm1 : ¬ ((q : Int) < (ml : Int)) := by omega
                            go_wp2_with fail
                            go_meet
                            case rel => exact HLW1.out.vals rfl rfl (by rw [hG9.out]; omega) rfl
                      case rest =>
                        clear c2 cf2 HLW1 hmcc hG9
                        obtain ⟨wf, rfl⟩ : ∃ wf : World, wf = wc := ⟨_, rfl⟩
                        obtain ⟨rb, hrb⟩ : ∃ rb, rb = Rc.getD q false := ⟨_, rfl⟩
                        have hR9 : Hid (tR bad Rc (q + 1) = tR bad Rc q + if bad = false ∧ rb = true then 1 else 0) := by show _ = _; rw [hrb]; rfl
                        have hrcc : (q < rl ∧ ∃ b o, ra = some ⟨b, o, none⟩ ∧ b < w.heap.size ∧ wf.cell? ⟨b, o + q, none⟩ = some (.bool rb)) ∨ (rl ≤ q ∧ rb = false) := by
                          by_cases hq1 : q < rl
                          · rcases HH.out.hRc.row with h | ⟨b, o, e, hb, hc⟩
                            · omega
                            · exact .inl ⟨hq1, b, o, e, hb, by rw [hrb]; exact ((HB6.out.trans (hcut.bel.mono (by omega))).cell (p := ⟨b, o + q, none⟩) hb).trans (hc q hq1)⟩
                          · exact .inr ⟨by omega, by rw [hrb]; exact getD_far _ _ _ (by rw [HH.out.hRc.len]; omega)⟩
                        obtain ⟨c0, c1, c2, c3, cf⟩ := hcut.cells
                        have cf0 := cf 0
                        have HLW1 := hidden hcut
                        clear hcut c1 c2 c3 cf hrb
                        go_upto_region 47 with fail
                        go_cut [236] from 181 to 264 (fun bb wx => bb = .bool (!bad && rb) ∧ wx = wf)
                        case first =>
                          as_aux_lemma =>
                            cases bad
                            · rcases hrcc with ⟨hqr, b, o, rfl, hbw, hbc⟩ | ⟨hqr, rfl⟩
                              · have hqr1 : (q : Int) < (rl : Int) := by omega
                                have hq00 : (0 : Int) ≤ (q : Int) := by omega
                                go_wp2_with fail
                                go_meet
                                case rel => exact ⟨by simp, rfl⟩
                              · have hqr1 : ¬ ((q : Int) < (rl : Int)) := by omega
                                go_wp2_with fail
                                go_meet
                                case rel => exact ⟨by simp, rfl⟩
                            · go_wp2_with fail
                              go_meet
                              case rel => exact ⟨by simp, rfl⟩
                        case rest =>
                          obtain ⟨rfl, hwx⟩ := hcut
                          subst hwx
                          go_upto_if 236 with fail
                          go_cut [] from 181 to 264 (fun wg => LW w6 w.heap.size #[.int .i64 ta, .int .i64 tb, .int .i64 tc, .int .i64 td] (.slice (some ⟨g, 0, none⟩) l'.length cap) l' (tR bad Rc (q + 1) : Nat) (tM S A s lo (q + 1) : Nat) (tG M (q + 1)) (tU S A s lo (q + 1) : Nat) wg)
                          case first =>
                            as_aux_lemma =>
                              cases bad
                              · cases rb
                                · go_wp2_with fail
                                  go_meet
                                  case rel => exact HLW1.out.vals (a' := (tR false Rc (q + 1) : Nat)) (by rw [hR9.out]; simp) rfl rfl rfl
                                · go_wp2_with fail
                                  go_meet
                                  case rel => exact (HLW1.out.tally 0 _ rfl).vals (a' := (tR false Rc (q + 1) : Nat)) (by rw [hR9.out]; simp) rfl rfl rfl
                              · cases rb
                                · go_wp2_with fail
                                  go_meet
                                  case rel => exact HLW1.out.vals (a' := (tR true Rc (q + 1) : Nat)) (by rw [hR9.out]; simp) rfl rfl rfl
                                · go_wp2_with fail
                                  go_meet
                                  case rel => exact HLW1.out.vals (a' := (tR true Rc (q + 1) : Nat)) (by rw [hR9.out]; simp) rfl rfl rfl
                          case rest =>
                            clear c0 cf0 HLW1 hrcc hR9
                            obtain ⟨wg, rfl⟩ : ∃ wg : World, wg = wc := ⟨_, rfl⟩
                            have hrd := HR6.out.read hcut.bel
                            have r4 : wg.cell? ⟨R, 4, none⟩ = some (.slice aD n cD) := by simp [World.cell?, hrd.blk]
                            have r5 : wg.cell? ⟨R, 5, none⟩ = some (.slice aP n cP) := by simp [World.cell?, hrd.blk]
                            obtain ⟨gD, cD', eD, _, _⟩ := hrd.dst.form (by rw [hDn]; omega)
                            obtain ⟨gP, cP', eP, _, _⟩ := hrd.pth.form (by omega)
                            obtain ⟨g2, cap2, e2, ho2⟩ := hrd.each q hqn
                            have ePq : (pths S A s lo n).getD q [] = l' := by rw [HL'.out]; simp [pths, hqn]
                            rw [ePq] at e2 ho2
                            have dD : wg.cell? ⟨gD, q, none⟩ = some (.int .i64 (lo + q)) := by
                              have h9 := hrd.dst
                              rw [eD] at h9
                              have := h9.cell q (by rw [hDn]; exact hqn)
                              rw [this]; simp [dsts, hqn]
                            have dP : wg.cell? ⟨gP, q, none⟩ = some (.slice (some ⟨g2, 0, none⟩) l'.length cap2) := by
                              have h9 := hrd.pth
                              rw [eP] at h9
                              rw [World.ownsRow.cellAt h9 q (by omega), ← e2]
                              have hpl : pv.length = n := by have := hrd.pth.1; omega
                              simp [hpl, hqn]
                            rw [hDn] at eD
                            injection eD with e3 e4 e5
                            injection eP with e6 e7 e8
                            subst e3
                            subst e6
                            have HLW1 := hidden hcut
                            have HEQ := hidden (equal_own ho2 hcut.own (by omega))
                            clear hcut hrd ho2 e2 ePq e4 e5 e7 e8
                            have hq00 : (0 : Int) ≤ (q : Int) := by omega
                            have hqn0 : (q : Int) < (n : Int) := by omega
                            go_wp2_with (go_at_call 20; refine HEQ.out.mono ?_; rintro e w9 ⟨rfl, mm, rfl⟩)
                            go_roundg (gk - 1)
                            case measure => omega
                            case rel => exact ⟨q + 1, l', by omega, by go_num, by go_num, HLW1.out.more ⟨rfl, rfl, rfl, Nat.le_refl _, fun _ _ _ => rfl⟩, HL'⟩
                · as_aux_lemma =>
                    have hqe : q = n := by omega
                    have hlw2 := hlw.vals (a' := ta) (b' := tb) (c' := tc) (d' := td) (by rw [HTA.out, hqe]) (by rw [HTB.out, hqe]) (by rw [HTC.out, hqe]) (by rw [HTD.out, hqe])
                    have hll : l = lp := by rw [HL.out, HLP.out, hqe]
                    have hlpl : lp.length ≤ 1000000 := by
                      rw [← hll, HL.out]
                      cases q with
                      | zero => exact hI6
                      | succ q => have := (rt_len S A s q (lo + q)).2; show (rt S A s q (lo + q)).length ≤ 1000000; omega
                    rw [hll] at hlw2
                    have hop : OwnI w.heap.size wr vp lp := HO6.out.keep fun k hk => hlw2.bel.block k (HO6.out.lt k hk)
                    have HEQ := hidden (equal_own hop hlw2.own hlpl)
                    have HBB := hidden (HB6.out.trans (hlw2.bel.mono (by omega)))
                    obtain ⟨c0, c1, c2, c3, cf⟩ := hlw2.cells
                    have u0 : wr.cell? ⟨w6.heap.size, 0, none⟩ = some (.int .i64 ta) := by simp [World.cell?, hlw2.t]
                    have u1 : wr.cell? ⟨w6.heap.size, 1, none⟩ = some (.int .i64 tb) := by simp [World.cell?, hlw2.t]
                    have u2 : wr.cell? ⟨w6.heap.size, 2, none⟩ = some (.int .i64 tc) := by simp [World.cell?, hlw2.t]
                    have u3 : wr.cell? ⟨w6.heap.size, 3, none⟩ = some (.int .i64 td) := by simp [World.cell?, hlw2.t]
                    have hge : ¬ (lo + (q : Int) < lo + t - 4) := by omega
                    clear hlw hlw2 hop hll hqe cf HL HTA HTB HTC HTD hlpl
                    go_wp2_with (go_at_call 20; refine HEQ.out.mono ?_; rintro e w9 ⟨rfl, mm, rfl⟩)
                    go_ret
                    exact ⟨rfl, below_drewN HBB.out mm⟩
end Go.Proofs.Ybulkcjdg
