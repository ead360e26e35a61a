import Derived.Test.YbulkcjdgScript1
namespace Go.Proofs.Ybulkcjdg
open Go.RowKit
open Go.Deep (blk_alloc_lt blk_alloc_new nblk_alloc blk_setCell_other nblk_setCell)
set_option linter.unusedVariables false
set_option linter.unusedSimpArgs false

theorem cell0 (w : World) (a b c : Value) (t : TypeId) : (w.alloc (.cells #[a, b, c] t)).cell? ⟨w.heap.size, 0, none⟩ = some a := by
  have h := blk_alloc_new w (.cells #[a, b, c] t)
  generalize w.alloc (.cells #[a, b, c] t) = w9 at h ⊢
  simp only [World.cell?]
  rw [h]
  rfl
theorem cell2 (w : World) (a b c : Value) (t : TypeId) : (w.alloc (.cells #[a, b, c] t)).cell? ⟨w.heap.size, 2, none⟩ = some c := by
  have h := blk_alloc_new w (.cells #[a, b, c] t)
  generalize w.alloc (.cells #[a, b, c] t) = w9 at h ⊢
  simp only [World.cell?]
  rw [h]
  rfl

set_option maxRecDepth 100000 in
set_option maxHeartbeats 2000000 in
theorem script_walk (w : World) (x0 : Nat) (a : Option Addr) (n c : Nat) (f : Nat → Nat × Nat × Int) (s : Nat) (es : (x0 : Int) % 8 = s) (hs : s < 8) (hx0 : x0 ≤ 255) (hn : n ≤ 1024) (ho : OpsAt w w.heap.size a n f) :
    Calls Yba.prog 3 #[.int .u8 x0, .slice a n c] w fun e w' => e = .returned (.bool true) ∧ Below w.heap.size w w' := by
  have HN := fun m => hidden2 (new_lru w m)
  have HO := hidden2 ho
  have hd : decide ((1024 : Int) < (n : Int)) = false := by simp; omega
  clear ho
  go_enter Yba.func3, Yba.ntmps3
  go_wp2_with (go_at_call 6; refine (HN _).out.mono ?_; rintro e w9 ⟨rfl, h9, hc9⟩)
  have hR0 : SI w w9 (w.heap.size + 1) w.heap.size (1 + s) [] (.slice none 0 0) (.slice none 0 0) := ⟨h9, OwnI.nil _ _, OwnI.nil _ _, (fun b hb => by cases hb), by simp; omega, hc9⟩
  clear h9 hc9 HN
  generalize w9 = ws at *
  obtain ⟨L, hL⟩ : ∃ L, L = w.heap.size + 1 := ⟨_, rfl⟩
  obtain ⟨Mp, hMp⟩ : ∃ Mp, Mp = w.heap.size := ⟨_, rfl⟩
  have hR1 : SI w ws L Mp (1 + s) [] (.slice none 0 0) (.slice none 0 0) := by rw [hL, hMp]; exact hR0
  rw [← hL]
  clear hR0 hL hMp hd
  go_loopg [7, 8, 32] n (fun g kv vv qv wr => ∃ q : Nat, g + q = n ∧ qv = .int .i64 q ∧ ∃ l, SI w wr L Mp (1 + s) l kv vv)
  case atStart => exact ⟨0, rfl, rfl, _, hR1⟩
  case round =>
    obtain ⟨q, hgq, rfl, l, hR⟩ := hrel
    clear hR1
    by_cases hq : q < n
    · rcases HO.out with h0 | ⟨b, o, rfl, hb, hf⟩
      · omega
      obtain ⟨f0, f1, f2, f3, f4⟩ := hf q hq
      have g0 : wr.cell? ⟨b, o + q * 3, none⟩ = _ := hR.chg.cell f0 (fun h => h)
      have g1 : wr.cell? ⟨b, o + q * 3 + 1, none⟩ = _ := hR.chg.cell f1 (fun h => h)
      have g2 : wr.cell? ⟨b, o + q * 3 + 2, none⟩ = _ := hR.chg.cell f2 (fun h => h)
      obtain ⟨⟨op, kk, y⟩, hfe⟩ : ∃ t, t = f q := ⟨_, rfl⟩
      rw [← hfe] at g0 g1 g2 f3 f4
      clear f0 f1 f2 hf hfe
      obtain ⟨k, ek, hk16⟩ : ∃ k : Nat, (kk : Int) % 16 = k ∧ k < 16 := ⟨kk % 16, by simp, Nat.mod_lt _ (by decide)⟩
      have hR2 := hR.alloc (.cells #[.int .u8 op, .int .u8 kk, .int .i64 y] 27)
      have hPn : ¬ LruS L Mp l wr.heap.size := fun h => Nat.lt_irrefl _ (hR.lru.lt _ h)
      have hPs : w.heap.size ≤ wr.heap.size := hR.chg.size
      have p2 : (wr.alloc (.cells #[.int .u8 op, .int .u8 kk, .int .i64 y] 27)).cell? ⟨wr.heap.size, 2, none⟩ = some (.int .i64 y) := cell2 _ _ _ _ _
      have p0 : (wr.alloc (.cells #[.int .u8 op, .int .u8 kk, .int .i64 y] 27)).cell? ⟨wr.heap.size, 0, none⟩ = some (.int .u8 op) := cell0 _ _ _ _ _
      have hP2 : (wr.alloc (.cells #[.int .u8 op, .int .u8 kk, .int .i64 y] 27)).heap.size = wr.heap.size + 1 := nblk_alloc _ _
      go_upto_region 10 with fail
      clear g0 g1 g2 hR
      generalize wr.alloc (.cells #[.int .u8 op, .int .u8 kk, .int .i64 y] 27) = w1 at *
      generalize wr.heap.size = P at *
      have hkw : (Lit.int .i64 (k : Int)).wf = true := wf_small (by omega)
      have hm1 : (1 + (s : Int)) ≤ 100 := by omega
      have HI := hidden2 (hR2.index k hm1)
      have HR := hidden2 hR2
      have HP := hidden2 hPn
      have hlen := hR2.len
      have hB2 : w.heap.size ≤ w1.heap.size := hR2.chg.size
      clear hR2 hPn HO hb f3 f4 ek
      have hop : (op : Int) % 3 = 0 ∨ (op : Int) % 3 = 1 ∨ (op : Int) % 3 = 2 := by omega
      rcases hop with er | er | er
      · rcases HI.out with ⟨l1, x, l2, rfl, hxk, hidx⟩ | ⟨hk, hidx⟩
        · have HX := hidden2 hidx
          clear hidx HI
          have HG := hidden2 (get_hit HR.out.lru)
          obtain ⟨gv, cv, hvv, _, _⟩ := HR.out.hv.form (by simp; omega)
          subst hvv
          have hbund : Hid (∀ w2, Lru w.heap.size w2 L Mp (1 + s) (x :: (l1 ++ l2)) → Chg (LruS L Mp (l1 ++ x :: l2)) w1 w2 →
              (w2.cell? ⟨gv, l1.length, none⟩ = some (.int .i64 x.x)) ∧ Calls Yba.prog 9 #[u7, .slice (some ⟨gv, 0, none⟩) ((l1 ++ x :: l2).map (·.x)).length cv, .int .i64 (l1.length : Nat)] w2 fun e w' => ∃ kv' vv', e = .returned (.tuple #[kv', vv']) ∧ SI w w' L Mp (1 + s) (x :: (l1 ++ l2)) kv' vv') := hidden2 (fun w2 h2 hc2 => by
            obtain ⟨hk2, hv2, hw2⟩ := HR.out.rows hc2
            have hll : l1.length < ((l1 ++ x :: l2).map (·.k)).length := by simp
            refine ⟨?_, (move_row hk2 hv2 (by simp) l1.length hll (by simp only [List.length_map]; omega) hw2.size).mono ?_⟩
            · rw [hv2.cell l1.length (by simp), (map_at (·.x)).1]
            · rintro e w' ⟨g1, g2, c', n1, n2, rfl, e1, e2, hs2⟩
              refine ⟨_, _, rfl, SI.two h2 hw2 hs2 e1 e2 ?_ ?_ ?_⟩
              · rw [(map_at (·.k)).1, (map_at (·.k)).2.1, (map_at (·.k)).2.2]; simp
              · rw [(map_at (·.x)).1, (map_at (·.x)).2.1, (map_at (·.x)).2.2]; simp
              · simp at hlen ⊢; omega)
          obtain ⟨nv, hnv⟩ : ∃ nv, nv = ((l1 ++ x :: l2).map (·.x)).length := ⟨_, rfl⟩
          obtain ⟨i, hi⟩ : ∃ i, i = l1.length := ⟨_, rfl⟩
          have hin : i < nv := by rw [hi, hnv]; simp
          rw [← hnv, ← hi] at hbund
          rw [← hi] at HX
          rw [← hnv]
          rw [hxk] at HG
          clear hlen hnv hi
          as_aux_lemma =>
            go_wp2_with (first
              | (go_at_call 7; refine HX.out.mono ?_; rintro e w9 ⟨rfl, hw9⟩; have hw8 := hw9.symm; subst hw8)
              | (go_at_call 8; refine HG.out.mono ?_; rintro e w2 ⟨rfl, h2, hc2⟩; obtain ⟨hcv, hmv⟩ := hbund.out w2 h2 hc2; have HM := hidden2 hmv; clear h2 hc2 hmv)
              | (go_at_call 9; refine HM.out.mono ?_; rintro e w3 ⟨kv', vv', rfl, h3⟩; have H3 := hidden2 h3; clear h3))
            go_roundg (n - (q + 1))
            case measure => omega
            case rel => exact ⟨q + 1, by omega, by go_num, _, H3.out⟩
        · have HX := hidden2 hidx
          clear hidx HI
          have HG := hidden2 (get_miss HR.out.lru k hk hkw)
          as_aux_lemma =>
            go_wp2_with (first
              | (go_at_call 7; refine HX.out.mono ?_; rintro e w9 ⟨rfl, hw9⟩; have hw8 := hw9.symm; subst hw8)
              | (go_at_call 8; refine HG.out.mono ?_; rintro e w9 ⟨rfl, hw9⟩; have hw8 := hw9.symm; subst hw8))
            go_roundg (n - (q + 1))
            case measure => omega
            case rel => exact ⟨q + 1, by omega, by go_num, _, HR.out⟩
      · rcases HI.out with ⟨l1, x, l2, rfl, hxk, hidx⟩ | ⟨hk, hidx⟩
        · have HX := hidden2 hidx
          clear hidx HI
          have HG := hidden2 (put_hit HR.out.lru y)
          obtain ⟨gv, cv, hvv, _, _⟩ := HR.out.hv.form (by simp; omega)
          subst hvv
          have hbund : Hid (∀ w2, Lru w.heap.size w2 L Mp (1 + s) (⟨x.e, x.v, x.k, y⟩ :: (l1 ++ l2)) → Chg (LruS L Mp (l1 ++ x :: l2)) w1 w2 →
              w2.cell? ⟨P, 2, none⟩ = some (.int .i64 y) ∧ (w2.cell? ⟨gv, l1.length, none⟩ = some (.int .i64 x.x)) ∧ w2.frozen? ⟨gv, l1.length, none⟩ = false ∧
              Calls Yba.prog 9 #[u7, .slice (some ⟨gv, 0, none⟩) ((l1 ++ x :: l2).map (·.x)).length cv, .int .i64 (l1.length : Nat)] (w2.setCell ⟨gv, l1.length, none⟩ (.int .i64 y)) fun e w' => ∃ kv' vv', e = .returned (.tuple #[kv', vv']) ∧ SI w w' L Mp (1 + s) (⟨x.e, x.v, x.k, y⟩ :: (l1 ++ l2)) kv' vv') := hidden2 (fun w2 h2 hc2 => by
            obtain ⟨hk2, hv2, hw2⟩ := HR.out.rows hc2
            have hll : l1.length < ((l1 ++ x :: l2).map (·.k)).length := by simp
            have hne := HR.out.ne
            have hk3 : OwnI w.heap.size (w2.setCell ⟨gv, l1.length, none⟩ (.int .i64 y)) u7 ((l1 ++ (⟨x.e, x.v, x.k, y⟩ : En) :: l2).map (·.k)) := by
              have e1 : (l1 ++ (⟨x.e, x.v, x.k, y⟩ : En) :: l2).map (·.k) = (l1 ++ x :: l2).map (·.k) := by simp
              rw [e1]
              exact hk2.keep fun b hb => blk_setCell_other _ _ _ _ (fun e => hne b hb (by rw [e]; rfl))
            have hv3 : OwnI w.heap.size (w2.setCell ⟨gv, l1.length, none⟩ (.int .i64 y)) (.slice (some ⟨gv, 0, none⟩) ((l1 ++ x :: l2).map (·.x)).length cv) ((l1 ++ (⟨x.e, x.v, x.k, y⟩ : En) :: l2).map (·.x)) := by
              have e1 : (l1 ++ (⟨x.e, x.v, x.k, y⟩ : En) :: l2).map (·.x) = ((l1 ++ x :: l2).map (·.x)).set l1.length y := by simp
              rw [e1]
              exact hv2.set l1.length (by simp) y
            have h3 : Lru w.heap.size (w2.setCell ⟨gv, l1.length, none⟩ (.int .i64 y)) L Mp (1 + s) (⟨x.e, x.v, x.k, y⟩ :: (l1 ++ l2)) := h2.keep fun b hb => blk_setCell_other _ _ _ _ (fun e => own_not_lru hv2 h2 (b := b) (by rw [e]; rfl) hb)
            have hw3 : Chg (fun _ => False) w (w2.setCell ⟨gv, l1.length, none⟩ (.int .i64 y)) := hw2.setCell (p := ⟨gv, l1.length, none⟩) (.inr (hv2.below gv rfl)) _
            refine ⟨hc2.cell p2 HP.out, ?_, hv2.fcell _, (move_row hk3 hv3 (by simp) l1.length (by simp) (by simp only [List.length_map]; simp at hlen ⊢; omega) hw3.size).mono ?_⟩
            · rw [hv2.cell l1.length (by simp), (map_at (·.x)).1]
            · rintro e w' ⟨g1, g2, c', n1, n2, rfl, e1, e2, hs2⟩
              refine ⟨_, _, rfl, SI.two h3 hw3 hs2 e1 e2 ?_ ?_ ?_⟩
              · rw [(map_at (·.k)).1, (map_at (·.k)).2.1, (map_at (·.k)).2.2]; simp
              · rw [(map_at (·.x)).1, (map_at (·.x)).2.1, (map_at (·.x)).2.2]; simp
              · simp at hlen ⊢; omega)
          obtain ⟨nv, hnv⟩ : ∃ nv, nv = ((l1 ++ x :: l2).map (·.x)).length := ⟨_, rfl⟩
          obtain ⟨i, hi⟩ : ∃ i, i = l1.length := ⟨_, rfl⟩
          have hin : i < nv := by rw [hi, hnv]; simp
          rw [← hnv, ← hi] at hbund
          rw [← hi] at HX
          rw [← hnv]
          rw [hxk] at HG hbund
          clear hlen hnv hi
          as_aux_lemma =>
            go_wp2_with (first
              | (go_at_call 7; refine HX.out.mono ?_; rintro e w9 ⟨rfl, hw9⟩; have hw8 := hw9.symm; subst hw8)
              | (go_at_call 10; refine HG.out.mono ?_; rintro e w2 ⟨rfl, h2, hc2⟩; obtain ⟨hcp, hcv, hfv, hmv⟩ := hbund.out w2 h2 hc2; have HM := hidden2 hmv; clear h2 hc2 hmv)
              | (go_at_call 9; refine HM.out.mono ?_; rintro e w3 ⟨kv', vv', rfl, h3⟩; have H3 := hidden2 h3; clear h3))
            go_roundg (n - (q + 1))
            case measure => omega
            case rel => exact ⟨q + 1, by omega, by go_num, _, H3.out⟩
        · have HX := hidden2 hidx
          clear hidx HI
          by_cases hfull : (l.length : Int) < 1 + s
          · have HG := hidden2 (put_new HR.out.lru k y hk hkw hfull hm1 hB2)
            obtain ⟨ak, ck, hkv, _⟩ := HR.out.hk.shape
            obtain ⟨av, cv, hvv, _⟩ := HR.out.hv.shape
            rw [List.length_map] at hkv hvv
            obtain ⟨nl, hnl⟩ : ∃ nl, nl = l.length := ⟨_, rfl⟩
            rw [← hnl] at hkv hvv hfull
            subst hkv hvv
            have hdl : decide ((1 + (s : Int)) ≤ (nl : Int)) = false := by simp; omega
            have HNL := hidden2 hnl
            have t1 : True := trivial
            have t2 : True := trivial
            clear hnl hlen
            as_aux_lemma =>
              go_wp2_with (first
                | (go_at_call 7; refine HX.out.mono ?_; rintro e w9 ⟨rfl, hw9⟩; have hw8 := hw9.symm; subst hw8)
                | (go_at_call 10; refine HG.out.mono ?_; rintro e w2 ⟨E, Vb, rfl, h2, hc2⟩; obtain ⟨hk2, hv2, hw2⟩ := HR.out.rows hc2; have p22 := hc2.cell p2 HP.out; have H2 := hidden2 h2; have HK2 := hidden2 hk2; have HV2 := hidden2 hv2; have HW2 := hidden2 hw2; clear h2 hc2 hk2 hv2 hw2 p2)
                | (at_builtin; have _t := t1; refine frontA rfl _ _ rfl k rfl rfl rfl HK2.out (by rw [List.length_map]; exact HNL.out.symm) (by omega) HW2.out.size ?_; intro g cap w3 ho3 hc3 hg3; have p23 := hc3.cell p22 (fun h => h); have O3 := hidden2 ho3; have C3 := hidden2 hc3; have HV3 := hidden2 (hc3.own HV2.out (fun _ _ h => h)); clear t1 ho3 hc3 hg3 p22 HK2 HV2)
                | (at_builtin; have _t := t2; refine frontA rfl _ _ rfl y rfl rfl rfl HV3.out (by rw [List.length_map]; exact HNL.out.symm) (by omega) (Nat.le_trans HW2.out.size C3.out.size) ?_; intro g' cap' w4 ho4 hc4 hg4; have HS4 := hidden2 (SI.front H2.out HW2.out O3.out C3.out ho4 hc4 hg4 (by rw [← HNL.out]; omega)); clear t2 ho4 hc4 hg4 p23))
              go_roundg (n - (q + 1))
              case measure => omega
              case rel => exact ⟨q + 1, by omega, by go_num, _, HS4.out⟩
          · rcases List.eq_nil_or_concat l with h0 | ⟨l1, x, h0⟩
            · subst h0; exfalso; simp at hfull; omega
            rw [List.concat_eq_append] at h0
            subst h0
            have hfull2 : (1 + (s : Int)) ≤ ((l1 ++ [x]).length : Int) := by omega
            have HG := hidden2 (put_evict HR.out.lru k y hk hkw hfull2 (by omega) hB2)
            obtain ⟨gk, ck, hkv, _, _⟩ := HR.out.hk.form (by simp)
            obtain ⟨gv, cv, hvv, _, _⟩ := HR.out.hv.form (by simp)
            have hbund : Hid (∀ w2 E Vb, Lru w.heap.size w2 L Mp (1 + s) (⟨E, Vb, k, y⟩ :: l1) → Chg (LruS L Mp (l1 ++ [x])) w1 w2 →
                w2.cell? ⟨P, 2, none⟩ = some (.int .i64 y) ∧ (w2.cell? ⟨gk, l1.length, none⟩ = some (.int .i64 x.k)) ∧
                Calls Yba.prog 11 #[u7, u8, .int .i64 (l1.length : Nat)] w2 fun e w' => ∃ g1 g2 c n', e = .returned (.tuple #[.slice (some ⟨g1, 0, none⟩) n' c, .slice (some ⟨g2, 0, none⟩) n' c]) ∧ n' = l1.length ∧
                  OwnI w.heap.size w' (.slice (some ⟨g1, 0, none⟩) n' c) (l1.map (·.k)) ∧ OwnI w.heap.size w' (.slice (some ⟨g2, 0, none⟩) n' c) (l1.map (·.x)) ∧ Lru w.heap.size w' L Mp (1 + s) (⟨E, Vb, k, y⟩ :: l1) ∧ Chg (fun _ => False) w w' ∧ w'.cell? ⟨P, 2, none⟩ = some (.int .i64 y)) := hidden2 (fun w2 E Vb h2 hc2 => by
              obtain ⟨hk2, hv2, hw2⟩ := HR.out.rows hc2
              have p22 := hc2.cell p2 HP.out
              refine ⟨p22, ?_, (drop_any hk2 hv2 (by simp) l1.length (by simp) (by simp only [List.length_map]; omega) hw2.size).mono ?_⟩
              · rw [hkv] at hk2
                rw [hk2.cell l1.length (by simp), (map_at (·.k)).1]
              · rintro e w' ⟨g1, g2, c', n1, n2, rfl, e1, e2, hs2⟩
                have eK := (map_at (l1 := l1) (x := x) (l2 := []) (·.k)).2
                have eV := (map_at (l1 := l1) (x := x) (l2 := []) (·.x)).2
                rw [eK.1, eK.2] at e1 hs2
                rw [eV.1, eV.2] at e2 hs2
                simp only [List.map_nil, List.append_nil, List.length_map] at e1 e2 hs2
                subst e1 e2
                refine ⟨g1, g2, c', _, rfl, rfl, ?_, ?_, h2.keep fun b hb => hs2.chg.block b (h2.lt b hb) (fun f => f), hw2.trans hs2.chg (fun _ _ f => f), hs2.chg.cell p22 (fun f => f)⟩
                · have := hs2.o1; rwa [List.length_map] at this
                · have := hs2.o2; rwa [List.length_map] at this)
            obtain ⟨i, hi⟩ : ∃ i, i = l1.length := ⟨_, rfl⟩
            have hkl : ((l1 ++ [x]).map (·.k)).length = i + 1 := by rw [hi]; simp
            have hvl : ((l1 ++ [x]).map (·.x)).length = i + 1 := by rw [hi]; simp
            rw [hkl] at hkv
            rw [hvl] at hvv
            have his : (1 + (s : Int)) ≤ (i : Int) + 1 := by simp at hfull2; omega
            have hi100 : i ≤ 100 := by simp at hlen; omega
            have his2 : (i : Int) ≤ s := by simp at hlen; omega
            have hdl : decide ((1 + (s : Int)) ≤ ((i : Int) + 1)) = true := by simpa using his
            subst hkv hvv
            simp only [← hi] at hbund
            have HNL := hidden2 hi
            have t1 : True := trivial
            have t2 : True := trivial
            clear hi hlen hfull2 hkl hvl hfull hk
            as_aux_lemma =>
              go_wp2_with (first
                | (go_at_call 7; refine HX.out.mono ?_; rintro e w9 ⟨rfl, hw9⟩; have hw8 := hw9.symm; subst hw8)
                | (go_at_call 10; refine HG.out.mono ?_; rintro e w2 ⟨E, Vb, rfl, h2, hc2⟩; obtain ⟨hcp, hck, hdr⟩ := hbund.out w2 E Vb h2 hc2; have HD := hidden2 hdr; clear h2 hc2 hdr p2)
                | (go_at_call 11; refine HD.out.mono ?_; rintro e w3 ⟨g1, g2, c', n', rfl, hn', hk3, hv3, h3, hw3, p23⟩; have H2 := hidden2 h3; have HK2 := hidden2 hk3; have HV2 := hidden2 hv3; have HW2 := hidden2 hw3; have HNN := hidden2 (hn'.trans HNL.out); have hn100 : n' ≤ 100 := (by omega); have hns : (n' : Int) ≤ s := (by omega); clear h3 hk3 hv3 hw3 hcp hck hn')
                | (at_builtin; have _t := t1; refine frontA rfl _ _ rfl k rfl rfl rfl HK2.out (by rw [List.length_map]; exact HNN.out.symm) (by omega) HW2.out.size ?_; intro g cap w3 ho3 hc3 hg3; have p24 := hc3.cell p23 (fun h => h); have O3 := hidden2 ho3; have C3 := hidden2 hc3; have HV3 := hidden2 (hc3.own HV2.out (fun _ _ h => h)); clear t1 ho3 hc3 hg3 p23 HK2 HV2)
                | (at_builtin; have _t := t2; refine frontA rfl _ _ rfl y rfl rfl rfl HV3.out (by rw [List.length_map]; exact HNN.out.symm) (by omega) (Nat.le_trans HW2.out.size C3.out.size) ?_; intro g' cap' w4 ho4 hc4 hg4; have HS4 := hidden2 (SI.front H2.out HW2.out O3.out C3.out ho4 hc4 hg4 (by rw [← HNN.out]; omega)); clear t2 ho4 hc4 hg4 p24))
              go_roundg (n - (q + 1))
              case measure => omega
              case rel => exact ⟨q + 1, by omega, by go_num, _, HS4.out⟩
      · rcases HI.out with ⟨l1, x, l2, rfl, hxk, hidx⟩ | ⟨hk, hidx⟩
        · have HX := hidden2 hidx
          clear hidx HI
          have HG := hidden2 (remove_hit HR.out.lru (by omega))
          have hbund : Hid (∀ w2, Lru w.heap.size w2 L Mp (1 + s) (l1 ++ l2) → Chg (LruS L Mp (l1 ++ x :: l2)) w1 w2 →
              Calls Yba.prog 11 #[u7, u8, .int .i64 (l1.length : Nat)] w2 fun e w' => ∃ kv' vv', e = .returned (.tuple #[kv', vv']) ∧ SI w w' L Mp (1 + s) (l1 ++ l2) kv' vv') := hidden2 (fun w2 h2 hc2 => by
            obtain ⟨hk2, hv2, hw2⟩ := HR.out.rows hc2
            refine (drop_any hk2 hv2 (by simp) l1.length (by simp) (by simp only [List.length_map]; omega) hw2.size).mono ?_
            rintro e w' ⟨g1, g2, c', n1, n2, rfl, e1, e2, hs2⟩
            refine ⟨_, _, rfl, SI.two h2 hw2 hs2 e1 e2 ?_ ?_ ?_⟩
            · rw [(map_at (·.k)).2.1, (map_at (·.k)).2.2]; simp
            · rw [(map_at (·.x)).2.1, (map_at (·.x)).2.2]; simp
            · simp at hlen ⊢; omega)
          obtain ⟨i, hi⟩ : ∃ i, i = l1.length := ⟨_, rfl⟩
          rw [← hi] at hbund HX
          rw [hxk] at HG
          clear hlen hi
          as_aux_lemma =>
            go_wp2_with (first
              | (go_at_call 7; refine HX.out.mono ?_; rintro e w9 ⟨rfl, hw9⟩; have hw8 := hw9.symm; subst hw8)
              | (go_at_call 12; refine HG.out.mono ?_; rintro e w2 ⟨rfl, h2, hc2⟩; have HM := hidden2 (hbund.out w2 h2 hc2); clear h2 hc2)
              | (go_at_call 11; refine HM.out.mono ?_; rintro e w3 ⟨kv', vv', rfl, h3⟩; have H3 := hidden2 h3; clear h3))
            go_roundg (n - (q + 1))
            case measure => omega
            case rel => exact ⟨q + 1, by omega, by go_num, _, H3.out⟩
        · have HX := hidden2 hidx
          clear hidx HI
          have HG := hidden2 (remove_miss HR.out.lru k hk hkw)
          as_aux_lemma =>
            go_wp2_with (first
              | (go_at_call 7; refine HX.out.mono ?_; rintro e w9 ⟨rfl, hw9⟩; have hw8 := hw9.symm; subst hw8)
              | (go_at_call 12; refine HG.out.mono ?_; rintro e w9 ⟨rfl, hw9⟩; have hw8 := hw9.symm; subst hw8))
            go_roundg (n - (q + 1))
            case measure => omega
            case rel => exact ⟨q + 1, by omega, by go_num, _, HR.out⟩
    · obtain rfl : q = n := by omega
      clear HO
      obtain ⟨ak, ck, hkv, hks⟩ := hR.hk.shape
      obtain ⟨av, cv, hvv, hvs⟩ := hR.hv.shape
      have HKS := hidden2 hks
      have HVS := hidden2 hvs
      clear hks hvs
      rw [List.length_map] at hkv hvv HKS HVS
      obtain ⟨nl, hnl⟩ : ∃ nl, nl = l.length := ⟨_, rfl⟩
      rw [← hnl] at hkv hvv HKS HVS
      have hml : ∀ ty, (Builtin.len_ #[41] ty #[.map (some Mp)]).run Yba.prog wr = .ok (.int .i64 nl) wr := fun ty => by
        have := hR.lru.map.len ty
        rw [List.length_map, ← hnl] at this
        exact this
      have HLN := hidden2 (len_any hR.lru)
      rw [← hnl] at HLN
      have HFR := hidden2 (front_any hR.lru)
      have c6 := hR.lru.c6
      have HS := hidden2 hR
      subst hkv hvv
      have hnl1 : nl ≤ 1000 := by have := hR.len; omega
      have HNL := hidden2 hnl
      clear hR hnl
      as_aux_lemma =>
        go_wp2_with (first
          | (go_at_call 13; refine HLN.out.mono ?_; rintro e w9 ⟨rfl, hw9⟩; have hw8 := hw9.symm; subst hw8)
          | (go_at_call 14; refine HFR.out.mono ?_; rintro e w9 ⟨rfl, hw9⟩; have hw8 := hw9.symm; subst hw8))
        clear hml HLN HFR c6
        go_loopg [17, 18] nl (fun g ev jv w' => ∃ j : Nat, g + j = nl ∧ jv = .int .i64 j ∧ ev = atE (l.drop j) ∧ SI w w' L Mp (1 + s) l (.slice ak nl ck) (.slice av nl cv))
        case atStart => exact ⟨0, rfl, rfl, rfl, HS.out⟩
        case round =>
          obtain ⟨j, hgj, rfl, rfl, hS⟩ := hrel
          clear HS
          by_cases hj : j < nl
          · have hjl : j < l.length := by rw [← HNL.out]; exact hj
            have hsp : l = l.take j ++ l[j] :: l.drop (j + 1) := by rw [List.getElem_cons_drop, List.take_append_drop]
            obtain ⟨gk, rfl, _, _, _, hkc⟩ := hS.hk.shape2 (by rw [List.length_map]; omega)
            obtain ⟨gv, rfl, _, _, _, hvc⟩ := hS.hv.shape2 (by rw [List.length_map]; omega)
            have hk1 := hkc j (by rw [List.length_map]; exact hjl)
            have hv1 := hvc j (by rw [List.length_map]; exact hjl)
            have ek : (l.map (·.k)).getD j 0 = l[j].k := by simp [hjl]
            have ev : (l.map (·.x)).getD j 0 = l[j].x := by simp [hjl]
            rw [ek] at hk1
            rw [ev] at hv1
            have hmem : l[j] ∈ l := List.getElem_mem hjl
            have n3 := hS.lru.n3 hmem
            have v0 := hS.lru.v0 hmem
            have v1 := hS.lru.v1 hmem
            have he : atE (l.drop j) = .pointer (some ⟨l[j].e, 0, none⟩) := by rw [List.drop_eq_getElem_cons hjl]; rfl
            rw [he]
            have HNX := hidden2 (fun (w9 : World) (h9 : Lru w.heap.size w9 L Mp (1 + s) l) => show Calls Yba.prog 15 #[.pointer (some ⟨l[j].e, 0, none⟩)] w9 (fun e w' => e = .returned (atE (l.drop (j + 1))) ∧ w' = w9) from next_any (by rw [hsp] at h9; exact h9))
            have HS := hidden2 hS
            obtain ⟨x, hx⟩ : ∃ x, x = l[j] := ⟨_, rfl⟩
            simp only [← hx] at hk1 hv1 n3 v0 v1 HNX ⊢
            clear hS hsp hkc hvc ek ev hmem he hx hjl
            go_wp2_with fail
            go_quiet (fail)
            have HS2 := hidden2 (show SI w (wr.drewN nq) L Mp (1 + s) l (.slice (some ⟨gk, 0, none⟩) nl ck) (.slice (some ⟨gv, 0, none⟩) nl cv) from HS.out.drewN nq)
            go_wp2_with (go_at_call 15; refine (HNX.out _ HS2.out.lru).mono ?_; rintro e w9 ⟨rfl, hw9⟩; have hw8 := hw9.symm; subst hw8)
            go_roundg (nl - (j + 1))
            case measure => omega
            case rel => exact ⟨j + 1, by omega, by go_num, rfl, HS2.out⟩
          · obtain rfl : j = nl := by omega
            have he : atE (l.drop j) = .pointer none := by rw [List.drop_eq_nil_of_le (by rw [HNL.out]; exact Nat.le_refl _)]; rfl
            rw [he]
            have HB := hidden2 (hS.chg.below (fun k hk => hk.elim) (Nat.le_refl _))
            clear hS
            go_wp2_with fail
            go_ret
            exact ⟨rfl, HB.out⟩
end Go.Proofs.Ybulkcjdg
