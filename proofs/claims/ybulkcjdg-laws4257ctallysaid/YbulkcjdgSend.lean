import Derived.Test.YbulkcjdgRule
import Derived.BigRegion
import Derived.Deep.Cut
namespace Go.Proofs.Ybulkcjdg
open Go.RowKit
set_option linter.unusedVariables false
set_option linter.unusedSimpArgs false

theorem send_end {B : Nat} {w w6 : World} {R G : Nat} {rs ms : Value} {q : Nat} {vD vP vE vF : Value} {D p : List Int} {d : Int} {Ps : List (List Int)} {pv : List Value} {gp g np cap : Nat} (hR : Rule B w R G rs ms q vD vP D Ps pv (some gp)) (hgp : gp < w.heap.size)
    (m : Mid2 B w R G rs ms q vD vP vE vF (D ++ [d]) p pv g np cap w6) (hp : p.length = np) (x y : Value) (O : Obj) (n : Nat) :
    ∃ vE vF g cap, Rule B (((((w6.setCell ⟨R, 3, none⟩ (.int .i64 ((q : Int) + 1))).setCell ⟨w.heap.size, 0, none⟩ x).setCell ⟨w.heap.size, 1, none⟩ y).alloc O).drewN n) R G rs ms (q + 1) vE vF (D ++ [d]) (Ps ++ [p]) (pv ++ [.slice (some ⟨g, 0, none⟩) np cap]) (some gp) ∧
      Chg (fun k => k = R ∨ vD.ownBlock = some k ∨ vP.ownBlock = some k) w (((((w6.setCell ⟨R, 3, none⟩ (.int .i64 ((q : Int) + 1))).setCell ⟨w.heap.size, 0, none⟩ x).setCell ⟨w.heap.size, 1, none⟩ y).alloc O).drewN n) := by
  have hRlt : R < w.heap.size := Nat.lt_of_lt_of_le hR.rB hR.bs
  have hs := m.size
  refine ⟨vE, vF, g, cap, rule_next hR hgp m hp ?_ ?_⟩
  · refine Chg.drewN (Chg.alloc ?_ _) _
    refine Chg.setCell (p := ⟨w.heap.size, 1, none⟩) (Chg.setCell (p := ⟨w.heap.size, 0, none⟩) (Chg.setCell (p := ⟨R, 3, none⟩) (Chg.refl _ _) (.inl (.inl rfl)) _) (.inl (.inr rfl)) _) (.inl (.inr rfl)) _
  · show ((((w6.setCell ⟨R, 3, none⟩ (.int .i64 ((q : Int) + 1))).setCell ⟨w.heap.size, 0, none⟩ x).setCell ⟨w.heap.size, 1, none⟩ y).alloc O).heap[R]? = _
    rw [Go.Deep.blk_alloc_lt _ _ _ (by simp only [Go.Deep.nblk_setCell]; omega), Go.Deep.blk_setCell_other _ _ _ _ (by show R ≠ w.heap.size; omega), Go.Deep.blk_setCell_other _ _ _ _ (by show R ≠ w.heap.size; omega), heap_setCell_same w6 R 3 _ _ _ m.blk]
    rfl

theorem res_cells {w6 : World} {R H : Nat} (hR : R < H) (hH : H < w6.heap.size) (hb : w6.heap[H]? = some (.cells #[.bool false, .int .i64 0] 90 (0, 0))) (z x y : Value) (O : Obj) :
    ((((w6.setCell ⟨R, 3, none⟩ z).setCell ⟨H, 0, none⟩ x).setCell ⟨H, 1, none⟩ y).alloc O).cell? ⟨H, 0, none⟩ = some x ∧ ((((w6.setCell ⟨R, 3, none⟩ z).setCell ⟨H, 0, none⟩ x).setCell ⟨H, 1, none⟩ y).alloc O).cell? ⟨H, 1, none⟩ = some y := by
  have b : ((((w6.setCell ⟨R, 3, none⟩ z).setCell ⟨H, 0, none⟩ x).setCell ⟨H, 1, none⟩ y).alloc O).heap[H]? = some (.cells #[x, y] 90 (0, 0)) := by
    rw [Go.Deep.blk_alloc_lt _ _ _ (by simp only [Go.Deep.nblk_setCell]; omega), heap_setCell_same _ H 1 _ _ y (heap_setCell_same _ H 0 _ _ x (by rw [Go.Deep.blk_setCell_other _ _ _ _ (by show H ≠ R; omega)]; exact hb))]
    rfl
  constructor <;> simp [World.cell?, b]

set_option maxRecDepth 100000 in
set_option maxHeartbeats 2000000 in
theorem send_any (B R G : Nat) (ra ma : Option Addr) (rl rc ml mc q : Nat) (vD vP : Value) (D : List Int) (Ps : List (List Int)) (pv : List Value) (gp np capp : Nat) (p : List Int) (Bp : Nat) (d : Int) (w : World)
    (hR : Rule B w R G (.slice ra rl rc) (.slice ma ml mc) q vD vP D Ps pv (some gp)) (hq : q ≤ 100) (hp : OwnI Bp w (.slice (some ⟨gp, 0, none⟩) np capp) p) (hnp : 1 ≤ np) (hnp2 : np ≤ 2000) (rb : Bool) (mb : Int)
    (hrc : (q < rl ∧ ∃ b o, ra = some ⟨b, o, none⟩ ∧ b < B ∧ b ≠ R ∧ w.cell? ⟨b, o + q, none⟩ = some (.bool rb)) ∨ (rl ≤ q ∧ rb = false))
    (hmc : (q < ml ∧ ∃ b o, ma = some ⟨b, o, none⟩ ∧ b < B ∧ b ≠ R ∧ w.cell? ⟨b, o + q, none⟩ = some (.int .i16 mb) ∧ -32768 ≤ mb ∧ mb ≤ 32767) ∨ (ml ≤ q ∧ mb = 0)) :
    Calls Yba.prog 51 #[.pointer (some ⟨R, 0, none⟩), .pointer (some ⟨G, 0, none⟩), .slice (some ⟨gp, 0, none⟩) np capp, .int .i64 d] w fun e w' => e = .returned (.agg #[.bool rb, .int .i64 mb]) ∧ ∃ vE vF g cap, Rule B w' R G (.slice ra rl rc) (.slice ma ml mc) (q + 1) vE vF (D ++ [d]) (Ps ++ [p]) (pv ++ [.slice (some ⟨g, 0, none⟩) np cap]) (some gp) ∧ Chg (fun k => k = R ∨ vD.ownBlock = some k ∨ vP.ownBlock = some k) w w' := by
  have hRlt : R < w.heap.size := Nat.lt_of_lt_of_le hR.rB hR.bs
  have c0 : w.cell? ⟨R, 0, none⟩ = some (.pointer (some ⟨G, 0, none⟩)) := by simp [World.cell?, hR.blk]
  have c4 : w.cell? ⟨R, 4, none⟩ = some vD := by simp [World.cell?, hR.blk]
  have f4 : w.frozen? ⟨R, 4, none⟩ = false := by simp [World.frozen?, hR.blk]
  have hDl : D.length ≤ 1000000 := by rw [hR.dl]; omega
  have hw0 : w.heap.size < (w.alloc (.cells #[.bool false, .int .i64 0] 90)).heap.size := by simp
  have hM0 : Mv (w.alloc (.cells #[.bool false, .int .i64 0] 90)) vD (w.alloc (.cells #[.bool false, .int .i64 0] 90)) vD := Mv.refl _ _
  have hO0 : OwnI B (w.alloc (.cells #[.bool false, .int .i64 0] 90)) vD D := hR.dst.keep fun k hk => by rw [Go.Deep.blk_alloc_lt _ _ _ (hR.dst.lt k hk)]
  have hBs := hR.bs
  have c4a : (w.alloc (.cells #[.bool false, .int .i64 0] 90)).cell? ⟨R, 4, none⟩ = some vD := (((Below.refl w.heap.size w).alloc (Nat.le_refl _) _).cell (p := ⟨R, 4, none⟩) hRlt).trans c4
  have f4a : (w.alloc (.cells #[.bool false, .int .i64 0] 90)).frozen? ⟨R, 4, none⟩ = false := (((Below.refl w.heap.size w).alloc (Nat.le_refl _) _).frozen (p := ⟨R, 4, none⟩) hRlt).trans f4
  obtain ⟨j65, hj65⟩ := info65
  have hpe := fun (w : World) => run_neq_ptr_one (P := Yba.prog) w ⟨G, 0, none⟩ Yba.underlying60 hj65
  obtain ⟨i0, hi, hz0, hz1, hz2⟩ := info_parts Yba.info3
  obtain ⟨i25, hi25, hy0, hy1, hy2⟩ := info_parts Yba.info25
  have hneD : some R ≠ vD.ownBlock := fun e => by have := hR.dst.below R e.symm; have := hR.rB; omega
  have hneP : some R ≠ vP.ownBlock := fun e => by have := (hR.pth.lt R e.symm).1; have := hR.rB; omega
  have HR : Hid (Rule B w R G (.slice ra rl rc) (.slice ma ml mc) q vD vP D Ps pv (some gp)) := hR
  have HP : Hid (OwnI Bp w (.slice (some ⟨gp, 0, none⟩) np capp) p) := hp
  have HRC : Hid _ := hrc
  have HMC : Hid _ := hmc
  have hgpl : gp < w.heap.size := HP.out.lt gp rfl
  clear hR hp hrc hmc
  go_enter Yba.func51, Yba.ntmps51
  go_upto_region 4 with (at_builtin; refine append1' rfl (.tmp 23) (.tmp 25) rfl d (w.heap.size + 1) (by simp) rfl rfl hO0 hM0 hDl (by simp; omega) ?_; intro g1 cap1 w1 hO1 hM1; have k4 := hM1.grown.cell (a := ⟨R, 4, none⟩) c4a hneD; have kf4 := (hM1.grown.frozen_far ⟨R, 4, none⟩ (by simp; omega) hneD).trans f4a; clear hO0 hM0)
  have m1 := mid1 HR.out hO1 hM1
  generalize w1.setCell ⟨R, 4, none⟩ (.slice (some ⟨g1, 0, none⟩) (D.length + 1) cap1) = w3 at m1 ⊢
  generalize (Value.slice (some ⟨g1, 0, none⟩) (D.length + 1) cap1) = vE at *
  clear k4 kf4 hO1 hM1 c0 c4 f4 hDl c4a f4a hpe
  have hpl : p.length = np := by
    rcases HP.out.2 with ⟨h, _⟩ | ⟨g, cap, cur, h, _⟩
    · cases h
    · injection h with _ h2 _; exact h2.symm
  have hP3 : OwnI Bp w3 (.slice (some ⟨gp, 0, none⟩) np capp) p := m1.chg.own HP.out (by
    intro k hk h
    cases hk
    rcases h with h | h
    · exact HR.out.xR (congrArg some h)
    · exact HR.out.px (by simp) h.symm)
  have hpn : Hid (∀ j u, (p.map (Value.int .i64))[j]? = some u → w3.drew.cell? ((⟨gp, 0, none⟩ : Addr).add j) = some u) := World.ownsRow.cells hP3 rfl
  have c5 : w3.cell? ⟨R, 5, none⟩ = some vP := by simp [World.cell?, m1.blk]
  have f5 : w3.frozen? ⟨R, 5, none⟩ = false := by simp [World.frozen?, m1.blk]
  have hR3 : R < w3.heap.size := Nat.lt_trans hRlt m1.size
  have hb3 : B ≤ w3.heap.size := by have := m1.size; omega
  have hpl' : Hid (p.length = np) := hpl
  have HM1 : Hid (Mid1 B w R G (.slice ra rl rc) (.slice ma ml mc) q vD vP vE (D ++ [d]) w3) := m1
  have HP3 : Hid (OwnI Bp w3 (.slice (some ⟨gp, 0, none⟩) np capp) p) := hP3
  clear m1 hpl hP3
  have hvv : ∀ k, vP.ownBlock = some k → vD.ownBlock ≠ some k := fun k hk hd => own_types HR.out.dst HR.out.pth (by decide) k hd hk
  have hP3v : Hid (w3.ownsRow B 25 1 vP q pv) := HM1.out.chg.owns HR.out.pth (fun k hk h => by
    rcases h with h | h
    · exact hneP (by rw [hk, h])
    · exact hvv k hk h)
  have tok1 : True := trivial
  go_cut [] from 29 (fun wc => ∃ (vF : Value) (g2 cap2 : Nat), Mid2 B w R G (.slice ra rl rc) (.slice ma ml mc) q vD vP vE vF (D ++ [d]) p pv g2 np cap2 wc)
  case first =>
    go_region_law (first | (have _t := tok1; refine step_append_lies _ rfl (.const (.slice none 0 0)) (.tmp 34) 25 rfl B 3 i0 (.int .i64 0) 1 8 Yba.underlying25 hi hz0 hz1 hz2 rfl (by decide) (.slice none 0 0) 0 [] (by simp [Act.eval]) (World.ownsRow_nil _ _ _ _) ⟨gp, 0, none⟩ np capp (p.map (Value.int .i64)) (by simp [Act.eval, Act.put]) (by rw [List.length_map, hpl'.out]; omega) hpn.out (ints_oneCell _ _) (by omega) (by unfold maxLen; omega) (by omega) hb3 w3.heap.size rfl ?_; intro g2 cap2 w2 hown2 hgrow2 hat2 hlt2; simp only [Nat.zero_add, List.nil_append] at hown2; have c5' : w2.cell? ⟨R, 5, none⟩ = some vP := hgrow2.cell (a := ⟨R, 5, none⟩) c5 (by simp [Value.ownBlock]); have f5' : w2.frozen? ⟨R, 5, none⟩ = false := (hgrow2.frozen_far ⟨R, 5, none⟩ hR3 (by simp [Value.ownBlock])).trans f5; have hP2 : w2.ownsRow B 25 1 vP q pv := (Chg.ofGrown hgrow2).owns hP3v.out (by intro k _ h; cases h); have hs2 : w3.heap.size ≤ w2.heap.size := hgrow2.size; have hR2 : R < w2.heap.size := Nat.lt_of_lt_of_le hR3 hs2; clear tok1) | (refine step_append_lies _ rfl (.tmp 33) (.tmp 36) 63 rfl B 25 i25 (.slice none 0 0) 1 24 Yba.underlying63 hi25 hy0 hy1 hy2 rfl (by decide) vP q pv (by simp [Act.eval, Act.put]) (hP2.alloc _) ⟨w2.heap.size, 0, none⟩ 1 1 [.slice (some ⟨g2, 0, none⟩) np cap2] (by simp [Act.eval, Act.put]) rfl (one_new _ _ _) (by simp [Value.oneCell']) (by decide) (by unfold maxLen; omega) (by omega) (by simp; omega) (w2.heap.size + 1) (by simp) ?_; intro g5 cap5 w5 hown5 hgrow5 hat5 hlt5; have c5'' : w5.cell? ⟨R, 5, none⟩ = some vP := hgrow5.cell (a := ⟨R, 5, none⟩) ((((Below.refl w2.heap.size w2).alloc (Nat.le_refl _) _).cell (p := ⟨R, 5, none⟩) (by show R < _; omega)).trans c5') hneP; have f5'' : w5.frozen? ⟨R, 5, none⟩ = false := (hgrow5.frozen_far ⟨R, 5, none⟩ (by simp; omega) hneP).trans ((((Below.refl w2.heap.size w2).alloc (Nat.le_refl _) _).frozen (p := ⟨R, 5, none⟩) (by show R < _; omega)).trans f5')))
    all_goals
      go_wp2_with fail
      go_meet
      case rel => exact ⟨_, g2, cap2, mid2 HR.out HM1.out hown2 hpl'.out hgrow2 hat2 hown5 hgrow5 hat5⟩
  case rest =>
    obtain ⟨vF, g2, cap2, m2⟩ := hcut
    obtain ⟨w6, rfl⟩ : ∃ w6, w6 = wc := ⟨_, rfl⟩
    have c1 : w6.cell? ⟨R, 1, none⟩ = some (.slice ra rl rc) := by simp [World.cell?, m2.blk]
    have c2 : w6.cell? ⟨R, 2, none⟩ = some (.slice ma ml mc) := by simp [World.cell?, m2.blk]
    have c3 : w6.cell? ⟨R, 3, none⟩ = some (.int .i64 q) := by simp [World.cell?, m2.blk]
    have f3 : w6.frozen? ⟨R, 3, none⟩ = false := by simp [World.frozen?, m2.blk]
    have hR6 : R < w6.heap.size := Nat.lt_trans hRlt m2.size
    have hw6 : w.heap.size < w6.heap.size := m2.size
    have r0 : w6.cell? ⟨w.heap.size, 0, none⟩ = some (.bool false) := by simp [World.cell?, m2.res]
    have r1 : w6.cell? ⟨w.heap.size, 1, none⟩ = some (.int .i64 0) := by simp [World.cell?, m2.res]
    have rf0 : w6.frozen? ⟨w.heap.size, 0, none⟩ = false := by simp [World.frozen?, m2.res]
    have rf1 : w6.frozen? ⟨w.heap.size, 1, none⟩ = false := by simp [World.frozen?, m2.res]
    have HM2 : Hid _ := m2
    clear m2 HM1 HP3 hpn c5 f5 hR3 hb3 hP3v hvv hw0 hneD hneP tok1
    have hrc0 := fun z x y O => (res_cells hRlt hw6 HM2.out.res z x y O).1
    have hrc1 := fun z x y O => (res_cells hRlt hw6 HM2.out.res z x y O).2
    have HC0 : Hid _ := hrc0
    have HC1 : Hid _ := hrc1
    clear hrc0 hrc1
    rcases HRC.out with ⟨hql, b, o, rfl, hbB, hbR, hbc⟩ | ⟨hql, rfl⟩
    · rcases HMC.out with ⟨hqm, b', o', rfl, hbB', hbR', hbc', hm1, hm2⟩ | ⟨hqm, rfl⟩
      · have hb6 : w6.cell? ⟨b, o + q, none⟩ = some (.bool rb) := HM2.out.chg.cell hbc (fun h => by rcases h with h | h | h; exact hbR h; have := HR.out.dst.below b h; omega; have := (HR.out.pth.lt b h).1; omega)
        have hq1 : (q : Int) < (rl : Int) := by omega
        have hbl : b < w6.heap.size := by omega
        have hb6' : w6.cell? ⟨b', o' + q, none⟩ = some (.int .i16 mb) := HM2.out.chg.cell hbc' (fun h => by rcases h with h | h | h; exact hbR' h; have := HR.out.dst.below b' h; omega; have := (HR.out.pth.lt b' h).1; omega)
        have hq2 : (q : Int) < (ml : Int) := by omega
        have hbl' : b' < w6.heap.size := by omega
        have hq0 : (0 : Int) ≤ (q : Int) := by omega
        clear hbc hbc' HRC HMC
        have sd : ∀ (W : World) j x v, (W.drewN j).setCell x v = (W.setCell x v).drewN j := fun _ _ _ _ => rfl
        go_wp2
        go_quiet (fail)
        go_wp2
        go_region
        go_wp2
        go_quiet (fail)
        go_wp2
        go_region
        go_wp2
        refine bodyPost_ret (v := .agg #[.bool rb, .int .i64 mb]) (by simp [results, Yba.results51, go_sem, HC0.out, HC1.out]) rfl ⟨rfl, ?_⟩
        exact send_end HR.out hgpl HM2.out hpl'.out _ _ _ _
      · have hb6 : w6.cell? ⟨b, o + q, none⟩ = some (.bool rb) := HM2.out.chg.cell hbc (fun h => by rcases h with h | h | h; exact hbR h; have := HR.out.dst.below b h; omega; have := (HR.out.pth.lt b h).1; omega)
        have hq1 : (q : Int) < (rl : Int) := by omega
        have hbl : b < w6.heap.size := by omega
        have hq2 : ¬ ((q : Int) < (ml : Int)) := by omega
        have hq0 : (0 : Int) ≤ (q : Int) := by omega
        clear hbc HRC HMC
        have sd : ∀ (W : World) j x v, (W.drewN j).setCell x v = (W.setCell x v).drewN j := fun _ _ _ _ => rfl
        go_wp2
        go_quiet (fail)
        go_wp2
        go_region
        go_wp2
        go_quiet (fail)
        go_wp2
        refine bodyPost_ret (v := .agg #[.bool rb, .int .i64 0]) (by simp [results, Yba.results51, go_sem, HC0.out, HC1.out]) rfl ⟨rfl, ?_⟩
        exact send_end HR.out hgpl HM2.out hpl'.out _ _ _ _
    · rcases HMC.out with ⟨hqm, b', o', rfl, hbB', hbR', hbc', hm1, hm2⟩ | ⟨hqm, rfl⟩
      · have hq1 : ¬ ((q : Int) < (rl : Int)) := by omega
        have hb6' : w6.cell? ⟨b', o' + q, none⟩ = some (.int .i16 mb) := HM2.out.chg.cell hbc' (fun h => by rcases h with h | h | h; exact hbR' h; have := HR.out.dst.below b' h; omega; have := (HR.out.pth.lt b' h).1; omega)
        have hq2 : (q : Int) < (ml : Int) := by omega
        have hbl' : b' < w6.heap.size := by omega
        have hq0 : (0 : Int) ≤ (q : Int) := by omega
        clear hbc' HRC HMC
        have sd : ∀ (W : World) j x v, (W.drewN j).setCell x v = (W.setCell x v).drewN j := fun _ _ _ _ => rfl
        go_wp2
        go_quiet (fail)
        go_wp2
        go_quiet (fail)
        go_wp2
        go_region
        go_wp2
        refine bodyPost_ret (v := .agg #[.bool false, .int .i64 mb]) (by simp [results, Yba.results51, go_sem, HC0.out, HC1.out]) rfl ⟨rfl, ?_⟩
        exact send_end HR.out hgpl HM2.out hpl'.out _ _ _ _
      · have hq1 : ¬ ((q : Int) < (rl : Int)) := by omega
        have hq2 : ¬ ((q : Int) < (ml : Int)) := by omega
        have hq0 : (0 : Int) ≤ (q : Int) := by omega
        clear  HRC HMC
        have sd : ∀ (W : World) j x v, (W.drewN j).setCell x v = (W.setCell x v).drewN j := fun _ _ _ _ => rfl
        go_wp2
        go_quiet (fail)
        go_wp2
        go_quiet (fail)
        go_wp2
        refine bodyPost_ret (v := .agg #[.bool false, .int .i64 0]) (by simp [results, Yba.results51, go_sem, HC0.out, HC1.out]) rfl ⟨rfl, ?_⟩
        exact send_end HR.out hgpl HM2.out hpl'.out _ _ _ _
end Go.Proofs.Ybulkcjdg
