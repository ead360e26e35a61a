import Derived.Test.YbulkcjdgSM
import Derived.Deep.CutRange
import Derived.Deep.LoopGhost
import Derived.Deep.RegionWith
namespace Go.Proofs.Ybulkcjdg
open Go.RowKit
set_option linter.unusedVariables false
set_option linter.unusedSimpArgs false

theorem method_route (a : Addr) (w : World) : (method 157 57 (.pointer (some a)) "Route").run Yba.prog w = .ok (50, .pointer (some a)) w := by kernel_rfl

/-- The path that a search holds behind q destinations. -/
def lastP (S : List (List Int)) (A : List Bool) (src lo : Int) (lin : List Int) : Nat → List Int
  | 0 => lin
  | q + 1 => rt S A src q (lo + q)

/-- 'path[:0]'. -/
theorem cut0 {B : Nat} {w : World} {v : Value} {l : List Int} (h : OwnI B w v l) : ∃ v0, (∀ W, (Instr.slice 25 v none (some (.int .i64 0)) none).run Yba.prog W = .ok v0 W) ∧ v0.ownBlock = v.ownBlock ∧ OwnI B w v0 [] := by
  rcases h.2 with ⟨rfl, hl⟩ | ⟨g, cap, cur, rfl, hb, hg, hn, hm, hs, ht⟩
  · exact ⟨.slice none 0 0, fun W => by simp [go_sem], rfl, OwnI.nil _ _⟩
  · refine ⟨.slice (some ⟨g, 0, none⟩) 0 cap, fun W => ?_, rfl, ⟨rfl, .inr ⟨g, cap, cur, rfl, hb, hg, Nat.zero_le _, hm, hs, by simp⟩⟩⟩
    simp [go_sem]

/-- What a search is given. -/
structure Given (w0 w : World) (B0 R G T : Nat) (sa aa ra ma : Option Addr) (sl sc al ac rl rc ml mc : Nat) (S : List (List Int)) (A Rc : List Bool) (M : List Int) (lo : Int) (vin : Value) (lin : List Int) : Prop where
  hB : Below B0 w0 w
  hBs : B0 ≤ w.heap.size
  bR : B0 ≤ R
  rN : R < w.heap.size
  gN : G < w.heap.size
  tN : T < w.heap.size
  gR : G ≠ R
  tR' : T ≠ R
  inX : ∀ k, vin.ownBlock = some k → k < w.heap.size ∧ k ≠ R ∧ k ≠ G ∧ k ≠ T
  own : OwnI B0 w vin lin
  blk : w.heap[R]? = some (.cells #[.pointer (some ⟨G, 0, none⟩), .slice ra rl rc, .slice ma ml mc, .int .i64 0, .slice none 0 0, .slice none 0 0, .bool false] 68 (0, 0))
  g0 : w.cell? ⟨G, 0, none⟩ = some (.iface 57 (.pointer (some ⟨T, 0, none⟩)))
  t0 : w.cell? ⟨T, 0, none⟩ = some (.int .i64 lo)
  t1 : w.cell? ⟨T, 1, none⟩ = some (.slice sa sl sc)
  t2 : w.cell? ⟨T, 2, none⟩ = some (.slice aa al ac)
  hS : ∀ q, StepsAt w0 B0 sa sl S q
  hA : BoolsAt w0 B0 aa al A
  hRc : BoolsAt w0 B0 ra rl Rc
  mlen : M.length = ml
  mrow : RowAt w0 B0 ma ml (fun j => .int .i16 (M.getD j 0))
  mbd : ∀ x ∈ M, -32768 ≤ x ∧ x ≤ 32767
  lo1 : -128 ≤ lo
  lo2 : lo ≤ 127

theorem SM.start {w0 w : World} {B0 R G T : Nat} {sa aa ra ma : Option Addr} {sl sc al ac rl rc ml mc : Nat} {S : List (List Int)} {A Rc : List Bool} {M : List Int} {lo src : Int} {vin : Value} {lin : List Int} (h : Given w0 w B0 R G T sa aa ra ma sl sc al ac rl rc ml mc S A Rc M lo vin lin) :
    SM w B0 R G (.slice ra rl rc) (.slice ma ml mc) vin src (dsts lo 0) (pths S A src lo 0) 0 vin lin 0 0 0 0 (((w.alloc (.cells #[.int .i64 src, .iface 66 (.pointer (some ⟨R, 0, none⟩))] 77)).alloc (.cells #[.int .i64 0, .int .i64 0, .int .i64 0, .int .i64 0] 71)).alloc (.cells #[.int .i64 0, .int .i64 0, .int .i64 0, .int .i64 0] 71)) := by
  have hc : Chg (fun _ => False) w (((w.alloc (.cells #[.int .i64 src, .iface 66 (.pointer (some ⟨R, 0, none⟩))] 77)).alloc (.cells #[.int .i64 0, .int .i64 0, .int .i64 0, .int .i64 0] 71)).alloc (.cells #[.int .i64 0, .int .i64 0, .int .i64 0, .int .i64 0] 71)) := (((Chg.refl _ w).alloc _).alloc _).alloc _
  have hs : (((w.alloc (.cells #[.int .i64 src, .iface 66 (.pointer (some ⟨R, 0, none⟩))] 77)).alloc (.cells #[.int .i64 0, .int .i64 0, .int .i64 0, .int .i64 0] 71)).alloc (.cells #[.int .i64 0, .int .i64 0, .int .i64 0, .int .i64 0] 71)).heap.size = w.heap.size + 3 := by simp
  refine ⟨h.rN, fun k hk => ⟨(h.inX k hk).1, (h.inX k hk).2.1⟩, by omega, hc.mono (by simp), hc.own h.own (fun _ _ h => h), .inl rfl, ⟨.slice none 0 0, .slice none 0 0, [], ?_⟩, ?_, ?_, ?_⟩
  · refine ⟨by have := h.rN; omega, by omega, (hc.block R h.rN id).trans h.blk, rfl, rfl, OwnI.nil _ _, World.ownsRow_nil _ _ _ _, fun j hj => by omega, fun hne e => hne e, fun e => (h.inX R e).2.1 rfl⟩
  · have e : w.heap.size + 2 = ((w.alloc (.cells #[.int .i64 src, .iface 66 (.pointer (some ⟨R, 0, none⟩))] 77)).alloc (.cells #[.int .i64 0, .int .i64 0, .int .i64 0, .int .i64 0] 71)).heap.size := by simp
    rw [e, Go.Deep.blk_alloc_new]
  · rw [Go.Deep.blk_alloc_lt _ _ _ (by simp; omega), Go.Deep.blk_alloc_lt _ _ _ (by simp), Go.Deep.blk_alloc_new]
  · have e : w.heap.size + 1 = (w.alloc (.cells #[.int .i64 src, .iface 66 (.pointer (some ⟨R, 0, none⟩))] 77)).heap.size := by simp
    rw [Go.Deep.blk_alloc_lt _ _ _ (by simp), e, Go.Deep.blk_alloc_new]

theorem SM.cells {w wr : World} {B0 R G : Nat} {rs ms vin : Value} {src : Int} {D : List Int} {Ps : List (List Int)} {q : Nat} {v : Value} {l : List Int} {a b c d : Int} (h : SM w B0 R G rs ms vin src D Ps q v l a b c d wr) :
    wr.cell? ⟨w.heap.size + 1 + 1, 0, none⟩ = some (.int .i64 a) ∧ wr.cell? ⟨w.heap.size + 1 + 1, 1, none⟩ = some (.int .i64 b) ∧ wr.cell? ⟨w.heap.size + 1 + 1, 2, none⟩ = some (.int .i64 c) ∧ wr.cell? ⟨w.heap.size + 1 + 1, 3, none⟩ = some (.int .i64 d) ∧ ∀ i, wr.frozen? ⟨w.heap.size + 1 + 1, i, none⟩ = false := by
  have ht : wr.heap[w.heap.size + 1 + 1]? = some (.cells #[.int .i64 a, .int .i64 b, .int .i64 c, .int .i64 d] 71 (0, 0)) := h.tal
  exact ⟨by simp [World.cell?, ht], by simp [World.cell?, ht], by simp [World.cell?, ht], by simp [World.cell?, ht], fun i => by simp [World.frozen?, ht]⟩
theorem SM.vals {w wr : World} {B0 R G : Nat} {rs ms vin : Value} {src : Int} {D : List Int} {Ps : List (List Int)} {q : Nat} {v : Value} {l : List Int} {a b c d a' c' : Int} (h : SM w B0 R G rs ms vin src D Ps q v l a b c d wr) (ha : a = a') (hc : c = c') : SM w B0 R G rs ms vin src D Ps q v l a' b c' d wr := by subst ha; subst hc; exact h
/-- The four results are laid into their cell; the search is over. -/
theorem SM.finish {w wr : World} {B0 R G : Nat} {rs ms vin : Value} {src : Int} {D : List Int} {Ps : List (List Int)} {q : Nat} {v : Value} {l : List Int} {a b c d : Int} (h : SM w B0 R G rs ms vin src D Ps q v l a b c d wr) (x0 x1 x2 x3 : Value) :
    let w' := (((wr.setCell ⟨w.heap.size + 1, 0, none⟩ x0).setCell ⟨w.heap.size + 1, 1, none⟩ x1).setCell ⟨w.heap.size + 1, 2, none⟩ x2).setCell ⟨w.heap.size + 1, 3, none⟩ x3
    w'.heap[w.heap.size + 1]? = some (.cells #[x0, x1, x2, x3] 71 (0, 0)) ∧ OwnI B0 w' v l ∧ (v.ownBlock = vin.ownBlock ∨ ∃ g, v.ownBlock = some g ∧ w.heap.size ≤ g) ∧ (∃ vD vP pv, Rule (w.heap.size + 3) w' R G rs ms q vD vP D Ps pv v.ownBlock) ∧ Chg (fun k => k = R ∨ vin.ownBlock = some k) w w' := by
  intro w'
  obtain ⟨vD, vP, pv, hr⟩ := h.rule
  have hs := h.size
  have hRN := h.rN
  have hc : Chg (fun k => k = w.heap.size + 1) wr w' := (((((Chg.refl (fun k => k = w.heap.size + 1) wr).setCell (p := ⟨w.heap.size + 1, 0, none⟩) (.inl rfl) x0).setCell (p := ⟨w.heap.size + 1, 1, none⟩) (.inl rfl) x1).setCell (p := ⟨w.heap.size + 1, 2, none⟩) (.inl rfl) x2)).setCell (p := ⟨w.heap.size + 1, 3, none⟩) (.inl rfl) x3
  refine ⟨?_, hc.own h.own (fun k hk e => ?_), ?_, ⟨vD, vP, pv, hr.keep hc (by omega) (fun k hk e => by omega) (fun k hk hX => own_types h.own hr.pth (by decide) k hX hk) (.inl rfl)⟩, h.chg.trans hc (fun k hk e => by omega)⟩
  · exact heap_setCell_same _ _ 3 _ _ _ (heap_setCell_same _ _ 2 _ _ _ (heap_setCell_same _ _ 1 _ _ _ (heap_setCell_same _ _ 0 _ _ _ h.res)))
  · subst e
    rcases h.at_ with h9 | ⟨g, h9, hg⟩
    · have := (h.inN _ (h9 ▸ hk)).1; omega
    · rw [h9] at hk; cases hk; omega
  · rcases h.at_ with h9 | ⟨g, h9, hg⟩
    · exact .inl h9
    · exact .inr ⟨g, h9, by omega⟩
theorem hidden {p : Prop} (h : p) : Hid p := h
theorem Mv.swap {w w' : World} {v v0 v' : Value} (h : Mv w v0 w' v') (e : v0.ownBlock = v.ownBlock) : Mv w v w' v' := ⟨e ▸ h.grown, e ▸ h.own⟩
/-- No block of the search's own is the path's. -/
theorem SM.far {w wr : World} {B0 R G : Nat} {rs ms vin : Value} {src : Int} {D : List Int} {Ps : List (List Int)} {q : Nat} {v : Value} {l : List Int} {a b c d : Int} (h : SM w B0 R G rs ms vin src D Ps q v l a b c d wr) (k : Nat) (hk : k < w.heap.size + 3) (hv : vin.ownBlock ≠ some k) : v.ownBlock ≠ some k := by
  intro e
  rcases h.at_ with h9 | ⟨g, h9, hg⟩
  · exact hv (h9 ▸ e)
  · rw [h9] at e; cases e; omega

set_option maxRecDepth 100000 in
set_option maxHeartbeats 4000000 in
theorem search_any {w0 w : World} {B0 R G T : Nat} {sa aa ra ma : Option Addr} {sl sc al ac rl rc ml mc : Nat} {S : List (List Int)} {A Rc : List Bool} {M : List Int} {lo src : Int} {vin : Value} {lin : List Int} (hG : Given w0 w B0 R G T sa aa ra ma sl sc al ac rl rc ml mc S A Rc M lo vin lin)
    (hi : Int) (n : Nat) (hn : n ≤ 60) (hi1 : hi ≤ lo + n) (hi2 : 0 < n → lo + n ≤ hi) (hi3 : -1000 ≤ hi) (bad : Bool) (hbad : ∀ W, Below w.heap.size w W → Calls Yba.prog 25 #[.pointer (some ⟨G, 0, none⟩), .int .i64 src] W fun e w' => e = .returned (.bool bad) ∧ w' = W) :
    Calls Yba.prog 17 #[.pointer (some ⟨G, 0, none⟩), .agg #[.int .i64 src, .iface 66 (.pointer (some ⟨R, 0, none⟩))], .int .i64 lo, .int .i64 hi, vin] w fun e w' => ∃ v l, e = .returned (.tuple #[.agg #[.int .i64 (tR bad Rc n : Nat), .int .i64 (tM S A src lo n : Nat), .int .i64 (tG M n), .int .i64 (tU S A src lo n : Nat)], v]) ∧ Hid (l = lastP S A src lo lin n) ∧
      OwnI B0 w' v l ∧ (v.ownBlock = vin.ownBlock ∨ ∃ g, v.ownBlock = some g ∧ w.heap.size ≤ g) ∧ (∃ vD vP pv, Rule (w.heap.size + 3) w' R G (.slice ra rl rc) (.slice ma ml mc) n vD vP (dsts lo n) (pths S A src lo n) pv v.ownBlock) ∧ Chg (fun k => k = R ∨ vin.ownBlock = some k) w w' := by
  have hst := SM.start (src := src) hG
  have HG : Hid _ := hG
  have HB : Hid _ := hbad
  have hB3 : Below w.heap.size w (((w.alloc (.cells #[.int .i64 src, .iface 66 (.pointer (some ⟨R, 0, none⟩))] 77)).alloc (.cells #[.int .i64 0, .int .i64 0, .int .i64 0, .int .i64 0] 71)).alloc (.cells #[.int .i64 0, .int .i64 0, .int .i64 0, .int .i64 0] 71)) := (((Below.refl _ _).alloc (Nat.le_refl _) _).alloc (by simp) _).alloc (by simp; omega) _
  have lo1 := hG.lo1
  have lo2 := hG.lo2
  clear hbad hG
  go_enter Yba.func17, Yba.ntmps17
  go_wp2_with (go_at_call 25; refine (HB.out _ hB3).mono ?_; rintro e w9 ⟨rfl, hw9⟩; have hw8 := hw9.symm; subst hw8)
  generalize (((w.alloc (.cells #[.int .i64 src, .iface 66 (.pointer (some ⟨R, 0, none⟩))] 77)).alloc (.cells #[.int .i64 0, .int .i64 0, .int .i64 0, .int .i64 0] 71)).alloc (.cells #[.int .i64 0, .int .i64 0, .int .i64 0, .int .i64 0] 71)) = ws at hst ⊢
  go_loopg [4, 14] n (fun k v dd wr => ∃ (q : Nat) (l : List Int), k + q = n ∧ dd = .int .i64 (lo + q) ∧ SM w B0 R G (.slice ra rl rc) (.slice ma ml mc) vin src (dsts lo q) (pths S A src lo q) q v l (tR bad Rc q : Nat) (tM S A src lo q : Nat) (tG M q) (tU S A src lo q : Nat) wr ∧ Hid (l = lastP S A src lo lin q))
  case atStart => exact ⟨0, lin, by omega, by simp, hst, rfl⟩
  case round =>
    obtain ⟨q, l, hkq, rfl, hsm, HL⟩ := hrel
    clear hst hB3
    by_cases hqn : q < n
    · have hql : q ≤ 60 := by omega
      have hlt : lo + (q : Int) < hi := by have := hi2 (by omega); omega
      clear hi1 hi2
      obtain ⟨v0, hsl, hob, ho0⟩ := cut0 hsm.own
      have hGx : vin.ownBlock ≠ some G := fun e => (HG.out.inX G e).2.2.1 rfl
      have hTx : vin.ownBlock ≠ some T := fun e => (HG.out.inX T e).2.2.2 rfl
      have hNx : vin.ownBlock ≠ some w.heap.size := fun e => by have := (HG.out.inX _ e).1; omega
      have nG : some G ≠ v0.ownBlock := fun e => hsm.far G (by have := HG.out.gN; omega) hGx (hob ▸ e.symm)
      have nT : some T ≠ v0.ownBlock := fun e => hsm.far T (by have := HG.out.tN; omega) hTx (hob ▸ e.symm)
      have nN : some w.heap.size ≠ v0.ownBlock := fun e => hsm.far w.heap.size (by omega) hNx (hob ▸ e.symm)
      have g0 := hsm.chg.cell HG.out.g0 (fun h => by rcases h with h | h; exact HG.out.gR h; exact hGx h)
      have t0 := hsm.chg.cell HG.out.t0 (fun h => by rcases h with h | h; exact HG.out.tR' h; exact hTx h)
      have t1 := hsm.chg.cell HG.out.t1 (fun h => by rcases h with h | h; exact HG.out.tR' h; exact hTx h)
      have t2 := hsm.chg.cell HG.out.t2 (fun h => by rcases h with h | h; exact HG.out.tR' h; exact hTx h)
      have b0 : wr.cell? ⟨w.heap.size, 0, none⟩ = some (.int .i64 src) := by simp [World.cell?, hsm.box]
      have hBw : Below B0 w0 wr := HG.out.hB.trans (hsm.chg.below (fun k hk => by rcases hk with rfl | hk; exact HG.out.bR; exact HG.out.own.below k hk) HG.out.hBs)
      have hBz : B0 ≤ wr.heap.size := by have := hsm.size; have := HG.out.hBs; omega
      have HC := hidden <| top_route T B0 v0 q sl sc al ac lo src w0 wr.drew lo1 lo2 (by omega) hBw.drew hBz ho0 sa aa S A (HG.out.hS q) HG.out.hA t0 t1 t2 nT
      have HSM : Hid _ := hsm
      have hmr := method_route
      clear hsm hBw ho0 t0 t1 t2
      go_upto_region 6 with fail
      go_cut [4] from 21 to 77 (fun v' wc => ∃ (g cap : Nat) (l' : List Int), v' = .slice (some ⟨g, 0, none⟩) l'.length cap ∧ SM w B0 R G (.slice ra rl rc) (.slice ma ml mc) vin src (dsts lo q) (pths S A src lo q) q (.slice (some ⟨g, 0, none⟩) l'.length cap) l' (tR bad Rc q : Nat) (tM S A src lo q : Nat) (tG M q) (tU S A src lo q : Nat) wc ∧ Hid (l' = rt S A src q (lo + q)))
      case first =>
        go_region_held3 (fun w' => w'.cell? ⟨G, 0, none⟩ = some (.iface 57 (.pointer (some ⟨T, 0, none⟩))) ∧ w'.cell? ⟨w.heap.size, 0, none⟩ = some (.int .i64 src)) (go_keep) (first | (go_at_call 50; refine HC.out.mono ?_; rintro e w9 ⟨v1, rfl, hO1, hM1⟩; have k0 := hM1.grown.cell (a := ⟨G, 0, none⟩) g0 nG; have k1 := hM1.grown.cell (a := ⟨w.heap.size, 0, none⟩) b0 nN))
        all_goals
          go_wp2_with fail
          go_meet
          case rel =>
            obtain ⟨g, cap, e, _, _⟩ := hO1.form (rt_len S A src q (lo + q)).1
            subst e
            exact ⟨g, cap, _, rfl, HSM.out.moved (hM1.ofDrew.swap hob) hO1, rfl⟩
      case rest =>
        obtain ⟨g, cap, l', rfl, hsm, HL'⟩ := hcut
        clear hsl hob nG nT nN g0 b0 hBz HC HSM hmr HL
        have hlen := rt_len S A src q (lo + q)
        rw [← HL'.out] at hlen
        obtain ⟨hl1, hl2⟩ := hlen
        have hU := tU_le S A src lo q
        have hMv := tM_le S A src lo q
        have hRl := tR_le bad Rc q
        have hGl := tG_le M HG.out.mbd q
        obtain ⟨hG1, hG2⟩ := hGl
        have hU1 : Hid (tU S A src lo (q + 1) = tU S A src lo q + if l'.getD (l'.length - 1) 0 = lo + q then 0 else 1) := by show _ = _; rw [HL'.out]; rfl
        obtain ⟨la, hla⟩ : ∃ la, la = l'.getD (l'.length - 1) 0 := ⟨_, rfl⟩
        rw [← hla] at hU1
        have hcl : wc.cell? ⟨g, l'.length - 1, none⟩ = some (.int .i64 la) := by rw [hla]; exact hsm.own.cell _ (by omega)
        obtain ⟨c0, c1, c2, c3, cf⟩ := hsm.cells
        have cf3 := cf 3
        have HSM := hidden hsm
        clear hla hsm c0 c1 c2 cf
        go_upto_if 45 with fail
        go_cut [] from 21 to 77 (fun wd => SM w B0 R G (.slice ra rl rc) (.slice ma ml mc) vin src (dsts lo q) (pths S A src lo q) q (.slice (some ⟨g, 0, none⟩) l'.length cap) l' (tR bad Rc q : Nat) (tM S A src lo q : Nat) (tG M q) (tU S A src lo (q + 1) : Nat) wd)
        case first =>
          by_cases hll : la = lo + q
          · subst hll
            go_wp2_with fail
            go_meet
            case rel => rw [hU1.out, if_pos (by trivial)]; exact HSM.out
          · have hne : (la != lo + (q : Int)) = true := by simpa using hll
            go_wp2_with fail
            go_meet
            case rel => rw [hU1.out, if_neg hll]; exact HSM.out.tally 3 _ (by simp)
        case rest =>
          clear hcl c3 cf3 HSM
          obtain ⟨wd, rfl⟩ : ∃ wd : World, wd = wc := ⟨_, rfl⟩
          have hM1 : Hid (tM S A src lo (q + 1) = tM S A src lo q + mv l') := by show _ = _; rw [HL'.out]; rfl
          have hU' := tU_le S A src lo (q + 1)
          have hml := mv_le l'
          obtain ⟨c0, c1, c2, c3, cf⟩ := hcut.cells
          have cf1 := cf 1
          have HSM := hidden hcut
          have hmc : Hid (∀ j, j < l'.length → wd.drew.cell? ⟨g, j, none⟩ = some (.int .i64 (l'.getD j 0))) := fun j hj => hcut.own.cell j hj
          clear hcut c0 c2 c3 cf
          have sd : ∀ (W : World) j x v, (W.drewN j).setCell x v = (W.setCell x v).drewN j := fun _ _ _ _ => rfl
          have hwr : IntKind.i64.wrap ((tM S A src lo q : Nat) + (mv l' : Nat) : Int) = (tM S A src lo (q + 1) : Nat) := by rw [hM1.out, IntKind.wrap_i64]; omega
          go_upto_region 9 with fail
          go_cut [] from 21 to 77 (fun we => SM w B0 R G (.slice ra rl rc) (.slice ma ml mc) vin src (dsts lo q) (pths S A src lo q) q (.slice (some ⟨g, 0, none⟩) l'.length cap) l' (tR bad Rc q : Nat) (tM S A src lo (q + 1) : Nat) (tG M q) (tU S A src lo (q + 1) : Nat) we)
          case first =>
            go_region_with (go_at_call 26; refine (moves26 g cap l'.length l' rfl hl1 (by omega) wd.drew hmc.out).mono ?_; rintro e w9 ⟨rfl, mm, rfl⟩)
            all_goals
              go_wp2_with fail
              go_meet
              case rel => exact (HSM.out.tally 1 _ rfl).more ⟨rfl, rfl, rfl, Nat.le_refl _, fun _ _ _ => rfl⟩
          case rest =>
            clear c1 cf1 HSM hmc hwr hM1
            obtain ⟨we, rfl⟩ : ∃ we : World, we = wc := ⟨_, rfl⟩
            obtain ⟨vD, vP, pv, hr⟩ := hcut.rule
            have HSM := hidden hcut
            have HR := hidden hr
            have bx : we.cell? ⟨w.heap.size, 1, none⟩ = some (.iface 66 (.pointer (some ⟨R, 0, none⟩))) := by simp [World.cell?, hcut.box]
            clear hcut hr
            have hBw : Below B0 w0 we := HG.out.hB.trans (HSM.out.chg.below (fun k hk => by rcases hk with rfl | hk; exact HG.out.bR; exact HG.out.own.below k hk) HG.out.hBs)
            have hbR := HG.out.bR
            have hBs0 := HG.out.hBs
            obtain ⟨rb, hrb⟩ : ∃ rb, rb = Rc.getD q false := ⟨_, rfl⟩
            obtain ⟨mb, hmb⟩ : ∃ mb, mb = M.getD q 0 := ⟨_, rfl⟩
            have hrc : (q < rl ∧ ∃ b o, ra = some ⟨b, o, none⟩ ∧ b < w.heap.size + 3 ∧ b ≠ R ∧ we.cell? ⟨b, o + q, none⟩ = some (.bool rb)) ∨ (rl ≤ q ∧ rb = false) := by
              by_cases hq1 : q < rl
              · rcases HG.out.hRc.row with h | ⟨b, o, e, hb, hc⟩
                · omega
                · exact .inl ⟨hq1, b, o, e, by omega, by omega, by rw [hrb]; exact (hBw.cell (p := ⟨b, o + q, none⟩) hb).trans (hc q hq1)⟩
              · exact .inr ⟨by omega, by rw [hrb]; exact getD_far _ _ _ (by rw [HG.out.hRc.len]; omega)⟩
            have hmc : (q < ml ∧ ∃ b o, ma = some ⟨b, o, none⟩ ∧ b < w.heap.size + 3 ∧ b ≠ R ∧ we.cell? ⟨b, o + q, none⟩ = some (.int .i16 mb) ∧ -32768 ≤ mb ∧ mb ≤ 32767) ∨ (ml ≤ q ∧ mb = 0) := by
              by_cases hq1 : q < ml
              · have hmm : M.getD q 0 ∈ M := by
                  have : q < M.length := by rw [HG.out.mlen]; exact hq1
                  simp [this]
                rcases HG.out.mrow with h | ⟨b, o, e, hb, hc⟩
                · omega
                · exact .inl ⟨hq1, b, o, e, by omega, by omega, by rw [hmb]; exact (hBw.cell (p := ⟨b, o + q, none⟩) hb).trans (hc q hq1), by rw [hmb]; exact (HG.out.mbd _ hmm).1, by rw [hmb]; exact (HG.out.mbd _ hmm).2⟩
              · exact .inr ⟨by omega, by rw [hmb]; exact getD_far _ _ _ (by rw [HG.out.mlen]; omega)⟩
            have hmbd : -32768 ≤ mb ∧ mb ≤ 32767 := by
              rcases hmc with ⟨_, _, _, _, _, _, _, h1, h2⟩ | ⟨_, h⟩
              · exact ⟨h1, h2⟩
              · omega
            obtain ⟨hmb1, hmb2⟩ := hmbd
            have HC := hidden <| send_any (w.heap.size + 3) R G ra ma rl rc ml mc q vD vP _ _ pv g l'.length cap l' B0 (lo + q) we HR.out (by omega) HSM.out.own hl1 (by omega) rb mb hrc hmc
            have hG9 : Hid (tG M (q + 1) = tG M q + mb) := by show _ = _; rw [hmb]; rfl
            have hR9 : Hid (tR bad Rc (q + 1) = tR bad Rc q + if bad = false ∧ rb = true then 1 else 0) := by show _ = _; rw [hrb]; rfl
            clear hrc hmc hrb hmb hBw
            cases bad
            · cases rb
              · go_wp2_with (go_at_call 51; refine HC.out.mono ?_; rintro e w9 ⟨rfl, vE, vF, g9, cap9, hr9, hc9⟩; have hsm9 := HSM.out.sent HR.out hc9 hr9; rw [← dsts_succ, HL'.out, ← pths_succ, ← HL'.out] at hsm9; obtain ⟨c0, c1, c2, c3, cf⟩ := hsm9.cells; have cf0 := cf 0; have cf2 := cf 2; have hz9 : w.heap.size + 1 + 1 < w9.heap.size := (by have := hsm9.size; omega); have HS9 := hidden hsm9; clear hsm9 cf hr9 hc9 c1 c3)
                go_roundg (gk - 1)
                case measure => omega
                case rel =>
                  have h1 := HS9.out.tally 2 (tG M q + mb) rfl
                  exact ⟨q + 1, l', by omega, by go_num, (h1.more ((Chg.refl (fun _ => False) _).alloc _)).vals (by rw [hR9.out]; simp) hG9.out.symm, HL'⟩
              · go_wp2_with (go_at_call 51; refine HC.out.mono ?_; rintro e w9 ⟨rfl, vE, vF, g9, cap9, hr9, hc9⟩; have hsm9 := HSM.out.sent HR.out hc9 hr9; rw [← dsts_succ, HL'.out, ← pths_succ, ← HL'.out] at hsm9; obtain ⟨c0, c1, c2, c3, cf⟩ := hsm9.cells; have cf0 := cf 0; have cf2 := cf 2; have hz9 : w.heap.size + 1 + 1 < w9.heap.size := (by have := hsm9.size; omega); have HS9 := hidden hsm9; clear hsm9 cf hr9 hc9 c1 c3)
                go_roundg (gk - 1)
                case measure => omega
                case rel =>
                  have h1 := (HS9.out.tally 2 (tG M q + mb) rfl).tally 0 ((tR false Rc q : Nat) + 1) rfl
                  exact ⟨q + 1, l', by omega, by go_num, (h1.more ((Chg.refl (fun _ => False) _).alloc _)).vals (by rw [hR9.out]; simp) hG9.out.symm, HL'⟩
            · go_wp2_with (go_at_call 51; refine HC.out.mono ?_; rintro e w9 ⟨rfl, vE, vF, g9, cap9, hr9, hc9⟩; have hsm9 := HSM.out.sent HR.out hc9 hr9; rw [← dsts_succ, HL'.out, ← pths_succ, ← HL'.out] at hsm9; obtain ⟨c0, c1, c2, c3, cf⟩ := hsm9.cells; have cf0 := cf 0; have cf2 := cf 2; have hz9 : w.heap.size + 1 + 1 < w9.heap.size := (by have := hsm9.size; omega); have HS9 := hidden hsm9; clear hsm9 cf hr9 hc9 c1 c3)
              go_roundg (gk - 1)
              case measure => omega
              case rel =>
                have h1 := HS9.out.tally 2 (tG M q + mb) rfl
                exact ⟨q + 1, l', by omega, by go_num, (h1.more ((Chg.refl (fun _ => False) _).alloc _)).vals (by rw [hR9.out]; simp) hG9.out.symm, HL'⟩
    · have hqe : q = n := by omega
      subst hqe
      have hge : ¬ (lo + (q : Int) < hi) := by omega
      obtain ⟨c0, c1, c2, c3, cf⟩ := hsm.cells
      have r0 : wr.cell? ⟨w.heap.size + 1, 0, none⟩ = some (.int .i64 0) := by simp [World.cell?, hsm.res]
      have r1 : wr.cell? ⟨w.heap.size + 1, 1, none⟩ = some (.int .i64 0) := by simp [World.cell?, hsm.res]
      have r2 : wr.cell? ⟨w.heap.size + 1, 2, none⟩ = some (.int .i64 0) := by simp [World.cell?, hsm.res]
      have r3 : wr.cell? ⟨w.heap.size + 1, 3, none⟩ = some (.int .i64 0) := by simp [World.cell?, hsm.res]
      have rf : ∀ i, wr.frozen? ⟨w.heap.size + 1, i, none⟩ = false := fun i => by simp [World.frozen?, hsm.res]
      have HSM := hidden hsm
      clear hsm cf
      go_wp2_with fail
      have hfin := HSM.out.finish (.int .i64 (tR bad Rc q : Nat)) (.int .i64 (tM S A src lo q : Nat)) (.int .i64 (tG M q)) (.int .i64 (tU S A src lo q : Nat))
      obtain ⟨hfb, hf2, hf3, hf4, hf5⟩ := hfin
      refine bodyPost_ret (v := .tuple #[.agg #[.int .i64 (tR bad Rc q : Nat), .int .i64 (tM S A src lo q : Nat), .int .i64 (tG M q), .int .i64 (tU S A src lo q : Nat)], _]) (by simp [results, Yba.results17, go_sem, World.cell?, hfb]) rfl ⟨_, rfl, l, HL, hf2, hf3, hf4, hf5⟩
end Go.Proofs.Ybulkcjdg
