import Derived.Test.YbulkcjdgDoorZ13
import Derived.Deep.CutBlock
namespace Go.Proofs.YbulkcjdgDoor
open Go.RowKit
open Go.Deep
set_option linter.unusedVariables false
set_option linter.unusedSimpArgs false

theorem info22 : (Ybad.prog.info? 22).map (fun i => (i.zero, i.size, i.bytes)) = some (some (.int .u64 0), 1, 8) := by kernel_rfl
theorem info23 : (Ybad.prog.info? 23).map (fun i => (i.zero, i.size, i.bytes)) = some (some (.slice none 0 0), 1, 24) := by kernel_rfl
/-- The rows that came in. -/
def RowsIn (w : World) (ra : Option Addr) (rn : Nat) (rows : Nat → Nat) : Prop := rn = 0 ∨ ∃ b o, ra = some ⟨b, o, none⟩ ∧ ∀ j, j < rn → w.cell? ⟨b, o + j, none⟩ = some (.int .u64 (rows j))

noncomputable def zero39 : Array Value := ((Ybad.prog.info? 39).bind (·.zero)).elim #[] (·.cells)
theorem zrow39 (w : World) : (zeroValue 39).run Ybad.prog w = .ok (.agg zero39) w := by kernel_rfl
theorem zero39_size : zero39.size = 270 := by kernel_rfl
theorem zero39_4 : zero39[4]? = some (.int .i64 0) := by kernel_rfl
theorem zero39_5 : zero39[5]? = some (.int .i64 0) := by kernel_rfl
theorem zero39_6 : zero39[6]? = some (.int .u64 0) := by kernel_rfl
theorem zero39_7 : zero39[7]? = some (.int .u64 0) := by kernel_rfl
theorem zero39_8 : zero39[8]? = some (.int .u64 0) := by kernel_rfl
theorem zero39_9 : zero39[9]? = some (.int .i64 0) := by kernel_rfl
theorem zero39_10 : zero39[10]? = some (.bool false) := by kernel_rfl
theorem zero39_11 : zero39[11]? = some (.int .u64 0) := by kernel_rfl
/-- The estimator as it is laid. -/
noncomputable def est0 (k q s r : Value) (j : Nat) : Value :=
  if j = 0 then k else if j = 1 then q else if j = 2 then s else if j = 3 then r else if j = 4 ∨ j = 5 ∨ j = 9 then .int .i64 0 else if j = 6 ∨ j = 7 ∨ j = 8 ∨ j = 11 then .int .u64 0 else if j = 10 then .bool false else (zero39[j]?).getD undef
theorem est0_row (w : World) (k q s r : Value) : (w.alloc (.cells ((((zero39.setIfInBounds 0 k).setIfInBounds 1 q).setIfInBounds 2 s).setIfInBounds 3 r) 39)).rowIs w.heap.size 39 270 (est0 k q s r) := by
  have hs : ((((zero39.setIfInBounds 0 k).setIfInBounds 1 q).setIfInBounds 2 s).setIfInBounds 3 r).size = 270 := by simp only [Array.size_setIfInBounds, zero39_size]
  have := World.rowIs_alloc w ((((zero39.setIfInBounds 0 k).setIfInBounds 1 q).setIfInBounds 2 s).setIfInBounds 3 r) 39 (est0 k q s r) (fun j hj => by
    rw [hs] at hj
    simp only [Array.getElem?_setIfInBounds, Array.size_setIfInBounds, zero39_size]
    by_cases h3 : j = 3
    · subst h3; rfl
    · rw [if_neg (fun h => h3 h.symm)]
      by_cases h2 : j = 2
      · subst h2; rfl
      · rw [if_neg (fun h => h2 h.symm)]
        by_cases h1 : j = 1
        · subst h1; rfl
        · rw [if_neg (fun h => h1 h.symm)]
          by_cases h0 : j = 0
          · subst h0; rfl
          · rw [if_neg (fun h => h0 h.symm)]
            unfold est0
            rw [if_neg h0, if_neg h1, if_neg h2, if_neg h3]
            by_cases h4 : j = 4 ∨ j = 5 ∨ j = 9
            · rw [if_pos h4]
              rcases h4 with rfl | rfl | rfl
              · exact zero39_4
              · exact zero39_5
              · exact zero39_9
            · rw [if_neg h4]
              by_cases h5 : j = 6 ∨ j = 7 ∨ j = 8 ∨ j = 11
              · rw [if_pos h5]
                rcases h5 with rfl | rfl | rfl | rfl
                · exact zero39_6
                · exact zero39_7
                · exact zero39_8
                · exact zero39_11
              · rw [if_neg h5]
                by_cases h6 : j = 10
                · rw [if_pos h6]; subst h6; exact zero39_10
                · rw [if_neg h6]
                  rw [Array.getElem?_eq_getElem (by rw [zero39_size]; exact hj)]
                  rfl)
  rwa [hs] at this
theorem Sp.At.chg {S : Nat → Prop} {s : Sp} {E : Nat} {w w' : World} (h : s.At E w) (hN : Chg S w w') (hE : ¬ S E) (hR : ¬ S s.R) (hr : ∀ i, i < s.steps + 2 → ¬ S (s.rb i)) : s.At E w' :=
  ⟨hN.cell h.c0 hE, hN.cell h.c1 hE, hN.cell h.c2 hE, hN.cell h.c3 hE, hN.cell h.c4 hE, hN.cell h.c5 hE, fun m hm => hN.cell (h.c6 m hm) hE, hN.cell h.c9 hE, hN.cell h.c10 hE, hN.cell h.c11 hE, fun i hi => hN.cell (h.r i hi) hR, fun i k hi hk => hN.cell (h.v i k hi hk) (hr i hi)⟩
theorem Nr.of_block {w w' : World} {E al : Nat} {near : Nat → Nat} (h : Nr w E al near) (e : w'.heap[E]? = w.heap[E]?) : Nr w' E al near :=
  ⟨(World.cell?_of_block e).trans h.a, fun i hi => (World.cell?_of_block e).trans (h.n i hi), fun i => (by have := h.f i; unfold World.frozen? at this ⊢; rw [e]; exact this), h.al, h.nb⟩
theorem Chg.below' {R : Nat} {w w2 wr : World} (h : Chg (fun b => b = R) w2 wr) (hN : New w w2) (hR : w.heap.size ≤ R) : New w wr :=
  ⟨h.os.trans hN.os, h.tape.trans hN.tape, h.output.trans hN.output, Nat.le_trans hN.size h.size, fun b hb _ => (h.block b (Nat.lt_of_lt_of_le hb hN.size) (by show ¬ b = R; omega)).trans (hN.block b hb fun f => f)⟩
set_option maxRecDepth 100000 in
set_option maxHeartbeats 8000000 in
theorem build_any (A L O st Q rn rc BH BL Wd : Nat) (ra : Option Addr) (rows : Nat → Nat) (li fl db : Bool) (w : World) (hA : A < 18446744073709551616) (hOb : O < 18446744073709551616) (hst : st < 256) (hQ : Q < 18446744073709551616) (hrn : rn ≤ 1024) (hrb : ∀ j, rows j < 18446744073709551616) (hr : RowsIn w ra rn rows) (hBH : BH < 18446744073709551616) (hBL : BL < 18446744073709551616) (hWd : Wd < 256) :
    Calls Ybad.prog 4 #[.agg #[.int .u64 A, .int .u64 L, .int .u64 O, .int .u8 st, .int .u64 Q, .slice ra rn rc, .bool li, .bool fl, .bool db, .int .u64 BH, .int .u64 BL, .int .u8 Wd]] w fun e w' => ∃ (s : Sp) (E bh bl al : Nat) (near : Nat → Nat), e = .returned (.tuple #[.pointer (some ⟨E, 0, none⟩), .agg #[.int .u64 bh, .int .u64 bl], .int .u64 s.key]) ∧ New w w' ∧ w.heap.size ≤ E ∧ E < w'.heap.size ∧ s.Ok E ∧ s.At E w' ∧ Nr w' E al near ∧
      (al % 2 = 1 ∨ ∀ m, m < s.ne → near (s.ends m / 72057594037927936) % 2 = 1) ∧ bh < 18446744073709551616 ∧ bl < 18446744073709551616 ∧ mv s.steps bh bl ≤ s.steps + 1 ∧ (li = false → s.ne = 1 ∧ s.ends 0 = s.key) ∧ (li = true → s.ne = 3 ∧ s.ends 0 = s.key ∧ s.ends 1 = s.key / 2 ∧ s.ends 2 = s.key / 2 + 9223372036854775808) := by
  obtain ⟨sp, hspN⟩ : ∃ sp : Nat, 2 + st % 29 = sp := ⟨_, rfl⟩
  have hsp : (2 : Int) + (st : Int) % 29 = sp := by omega
  have hs1 : 2 ≤ sp := by omega
  have hs2 : sp ≤ 30 := by omega
  obtain ⟨P, hP⟩ : ∃ P, 2 ^ sp = P := ⟨_, rfl⟩
  have hP1 : P ≤ 1073741824 := by rw [← hP]; exact Nat.pow_le_pow_right (n := 2) (by omega) hs2
  have hP0 : 0 < P := by rw [← hP]; exact Nat.two_pow_pos _
  have hPz : IntKind.u64.wrap ((2 : Int) ^ sp) = (P : Int) := by
    rw [show (2 : Int) ^ sp = ((2 ^ sp : Nat) : Int) by simp, hP, wrap_id] <;> omega
  have hPn : ¬ (P : Int) = 0 := by omega
  obtain ⟨q, hq, hq1, hq2⟩ : ∃ q : Nat, IntKind.u64.wrap (1 + (Q : Int) % P) = (q : Int) ∧ 1 ≤ q ∧ q ≤ P := by
    have h1 : Q % P < P := Nat.mod_lt _ hP0
    refine ⟨1 + Q % P, ?_, by omega, by omega⟩
    rw [show (1 : Int) + (Q : Int) % P = ((1 + Q % P : Nat) : Int) by simp, wrap_id] <;> omega
  obtain ⟨n, hn⟩ : ∃ n : Nat, (sp : Int) + 2 = n := ⟨sp + 2, by omega⟩
  have hn32 : n ≤ 32 := by omega
  have hmk := run_make_row' (P := Ybad.prog) 34 23 (.slice none 0 0) 24 Ybad.underlying34 info23 rfl .i64 .i64 n (by omega) (by omega)
  have HR := hidden hr
  have HRB := hidden hrb
  clear hr hrb
  go_enter Ybad.func4, Ybad.ntmps4
  go_wp2_with fail
  have hIn : (((w.alloc (.cells #[.int .u64 A, .int .u64 L, .int .u64 O, .int .u8 st, .int .u64 Q, .slice ra rn rc, .bool li, .bool fl, .bool db, .int .u64 BH, .int .u64 BL, .int .u8 Wd] 25)).alloc (.cells #[.int .u64 0, .int .u64 0] 28)).alloc (.cells (madeCells #[.slice none 0 0] n) 23)).heap[w.heap.size]? = some (.cells #[.int .u64 A, .int .u64 L, .int .u64 O, .int .u8 st, .int .u64 Q, .slice ra rn rc, .bool li, .bool fl, .bool db, .int .u64 BH, .int .u64 BL, .int .u8 Wd] 25) := by
    rw [blk_alloc_lt _ _ _ (by simp only [nblk_alloc]; omega), blk_alloc_lt _ _ _ (by simp only [nblk_alloc]; omega), blk_alloc_new]
  have hRes : (((w.alloc (.cells #[.int .u64 A, .int .u64 L, .int .u64 O, .int .u8 st, .int .u64 Q, .slice ra rn rc, .bool li, .bool fl, .bool db, .int .u64 BH, .int .u64 BL, .int .u8 Wd] 25)).alloc (.cells #[.int .u64 0, .int .u64 0] 28)).alloc (.cells (madeCells #[.slice none 0 0] n) 23)).heap[w.heap.size + 1]? = some (.cells #[.int .u64 0, .int .u64 0] 28) := by
    rw [blk_alloc_lt _ _ _ (by simp only [nblk_alloc]; omega)]
    have := blk_alloc_new (w.alloc (.cells #[.int .u64 A, .int .u64 L, .int .u64 O, .int .u8 st, .int .u64 Q, .slice ra rn rc, .bool li, .bool fl, .bool db, .int .u64 BH, .int .u64 BL, .int .u8 Wd] 25)) (.cells #[.int .u64 0, .int .u64 0] 28)
    rwa [nblk_alloc] at this
  have hR0 : (((w.alloc (.cells #[.int .u64 A, .int .u64 L, .int .u64 O, .int .u8 st, .int .u64 Q, .slice ra rn rc, .bool li, .bool fl, .bool db, .int .u64 BH, .int .u64 BL, .int .u8 Wd] 25)).alloc (.cells #[.int .u64 0, .int .u64 0] 28)).alloc (.cells (madeCells #[.slice none 0 0] n) 23)).rowIs (w.heap.size + 1 + 1) 23 n (fun _ => .slice none 0 0) := by
    have := World.rowIs_made ((w.alloc (.cells #[.int .u64 A, .int .u64 L, .int .u64 O, .int .u8 st, .int .u64 Q, .slice ra rn rc, .bool li, .bool fl, .bool db, .int .u64 BH, .int .u64 BL, .int .u8 Wd] 25)).alloc (.cells #[.int .u64 0, .int .u64 0] 28)) (.slice none 0 0) n 23
    rwa [nblk_alloc, nblk_alloc] at this
  have hN2 : New w (((w.alloc (.cells #[.int .u64 A, .int .u64 L, .int .u64 O, .int .u8 st, .int .u64 Q, .slice ra rn rc, .bool li, .bool fl, .bool db, .int .u64 BH, .int .u64 BL, .int .u8 Wd] 25)).alloc (.cells #[.int .u64 0, .int .u64 0] 28)).alloc (.cells (madeCells #[.slice none 0 0] n) 23)) := (((Chg.refl _ w).alloc _).alloc _).alloc _
  have hsz : (((w.alloc (.cells #[.int .u64 A, .int .u64 L, .int .u64 O, .int .u8 st, .int .u64 Q, .slice ra rn rc, .bool li, .bool fl, .bool db, .int .u64 BH, .int .u64 BL, .int .u8 Wd] 25)).alloc (.cells #[.int .u64 0, .int .u64 0] 28)).alloc (.cells (madeCells #[.slice none 0 0] n) 23)).heap.size = w.heap.size + 3 := by simp only [nblk_alloc]
  generalize ((w.alloc (.cells #[.int .u64 A, .int .u64 L, .int .u64 O, .int .u8 st, .int .u64 Q, .slice ra rn rc, .bool li, .bool fl, .bool db, .int .u64 BH, .int .u64 BL, .int .u8 Wd] 25)).alloc (.cells #[.int .u64 0, .int .u64 0] 28)).alloc (.cells (madeCells #[.slice none 0 0] n) 23) = w2 at *
  have HIn := hidden hIn
  have HRes := hidden hRes
  have HR0 := hidden hR0
  have HN2 := hidden hN2
  have HSZ := hidden hsz
  clear hIn hRes hR0 hN2 hsz hmk
  go_loopg [8, 39] n (fun g idv iv wr => ∃ (i idx : Nat) (rv : Nat → Nat → Nat), g + i = n ∧ idv = .int .i64 idx ∧ iv = .int .i64 i ∧ idx ≤ 64 * i ∧ Chg (fun b => b = w.heap.size + 1 + 1) w2 wr ∧ wr.heap.size = w.heap.size + 3 + i ∧ (∀ i k, 1 ≤ rv i k ∧ rv i k < 18446744073709551616) ∧
    wr.rowIs (w.heap.size + 1 + 1) 23 n (fun m => if m < i then .slice (some ⟨w.heap.size + 3 + m, 0, none⟩) (m + 1) (m + 1) else .slice none 0 0) ∧ ∀ m, m < i → wr.rowIs (w.heap.size + 3 + m) 22 (m + 1) (fun k => .int .u64 (rv m k)))
  case atStart => exact ⟨0, 0, fun _ _ => 1, by omega, rfl, rfl, by omega, Chg.refl _ _, HSZ.out, fun _ _ => ⟨(by decide : 1 ≤ 1), (by decide : 1 < 18446744073709551616)⟩, HR0.out.congr fun j _ => by rw [if_neg (by omega)], fun m hm => absurd hm (by omega)⟩
  case round =>
    obtain ⟨i, idx, rv, hgi, rfl, rfl, hidx, hC, hws, hrv, hRr, hRows⟩ := hrel
    have HC := hidden hC
    have HRr := hidden hRr
    have HRows := hidden hRows
    have HRV := hidden hrv
    obtain ⟨T, hT⟩ : ∃ T, wr.heap.size = T := ⟨_, rfl⟩
    have HT := hidden (hT.symm.trans hws)
    clear hC hRr hRows hrv hws
    by_cases hi : i < n
    · have hiz : (i : Int) < n := by omega
      obtain ⟨n1, hn1⟩ : ∃ n1 : Nat, (i : Int) + 1 = n1 := ⟨i + 1, by omega⟩
      have hmk := run_make_row' (P := Ybad.prog) 23 22 (.int .u64 0) 8 Ybad.underlying23 info22 rfl .i64 .i64 n1 (by omega) (by omega)
      have HW3 : Hid ((wr.alloc (.cells (madeCells #[.int .u64 0] n1) 22)).rowIs T 22 n1 (fun _ => .int .u64 0)) := hidden (hT ▸ World.rowIs_made wr (.int .u64 0) n1 22)
      go_wp2_with fail
      have HC3 : Hid (Chg (fun b => b = w.heap.size + 1 + 1) w2 (wr.alloc (.cells (madeCells #[.int .u64 0] n1) 22))) := hidden (HC.out.alloc _)
      have HR3 := hidden (HRr.out.alloc (.cells (madeCells #[.int .u64 0] n1) 22))
      have HRo3 : Hid (∀ m, m < i → (wr.alloc (.cells (madeCells #[.int .u64 0] n1) 22)).rowIs (w.heap.size + 3 + m) 22 (m + 1) (fun k => .int .u64 (rv m k))) := hidden (fun m hm => (HRows.out m hm).alloc _)
      have HS3 : Hid ((wr.alloc (.cells (madeCells #[.int .u64 0] n1) 22)).heap.size = T + 1) := hidden (by rw [nblk_alloc, hT])
      generalize wr.alloc (.cells (madeCells #[.int .u64 0] n1) 22) = w3 at *
      clear hmk hT HC HRr HRows wr
      go_loopg [8, 47] n1 (fun g idv kv wx => ∃ (k : Nat) (rk : Nat → Nat), g + k = n1 ∧ idv = .int .i64 ((idx + k : Nat) : Int) ∧ kv = .int .i64 k ∧ Chg (fun b => b = T) w3 wx ∧ wx.heap.size = T + 1 ∧ wx.rowIs T 22 n1 (fun m => .int .u64 (rk m)) ∧ (∀ m, m < k → 1 ≤ rk m) ∧ ∀ m, rk m < 18446744073709551616)
      case atStart => exact ⟨0, fun _ => 0, by omega, rfl, rfl, Chg.refl _ _, HS3.out, HW3.out, fun m hm => absurd hm (by omega), fun _ => (by decide : 0 < 18446744073709551616)⟩
      case round =>
        obtain ⟨k, rk, hgk, rfl, rfl, hC4, hS4, hK4, hk1, hk2⟩ := hrel
        have HC4 := hidden hC4
        have HS4 := hidden hS4
        have HK4 := hidden hK4
        have HK1 := hidden hk1
        have HK2 := hidden hk2
        clear hC4 hS4 hK4 hk1 hk2
        obtain ⟨e, he⟩ : ∃ e, idx + k = e := ⟨_, rfl⟩
        rw [he]
        by_cases hk : k < n1
        · have hkz : (k : Int) < n1 := by omega
          have heb : e ≤ 4096 := by omega
          obtain ⟨e1, he1⟩ : ∃ e1 : Nat, (e : Int) + 1 = e1 := ⟨e + 1, by omega⟩
          have HI4 : Hid (wr.heap[w.heap.size]? = some (.cells #[.int .u64 A, .int .u64 L, .int .u64 O, .int .u8 st, .int .u64 Q, .slice ra rn rc, .bool li, .bool fl, .bool db, .int .u64 BH, .int .u64 BL, .int .u8 Wd] 25)) := hidden (by
            have hTe := HT.out
            rw [HC4.out.block _ (by rw [HS3.out]; omega) (by show ¬ _ = T; omega), HC3.out.block _ (by rw [HSZ.out]; omega) (by show ¬ _ = _; omega)]
            exact HIn.out)
          have I4 := HI4.out
          have c5 : wr.cell? ⟨w.heap.size, 5, none⟩ = some (.slice ra rn rc) := by simp [World.cell?, I4]
          have ct := HK4.out.cell hk
          have ft := HK4.out.frozen k
          clear I4
          have hkT : e ≤ 4096 := heb
          go_upto_if 56 with fail
          go_cut [12] (fun s12 wx => wx.heap = wr.heap ∧ wx.os = wr.os ∧ wx.tape = wr.tape ∧ wx.output = wr.output ∧ ∃ v : Nat, s12 = .int .u64 v ∧ 1 ≤ v ∧ v < 18446744073709551616)
          case first =>
            as_aux_lemma =>
              by_cases hz : rn = 0
              · subst hz
                go_wp2_with fail
                go_meet
                exact ⟨rfl, rfl, rfl, rfl, e1, rfl, by omega, by omega⟩
              · have hzz : (0 : Int) < rn := by omega
                have hzn : ¬ (rn : Int) = 0 := by omega
                rcases HR.out with h | ⟨b, o, rfl, hcs⟩
                · exact absurd h hz
                · obtain ⟨r, hrr⟩ : ∃ r, e % rn = r := ⟨_, rfl⟩
                  have hrlt : r < rn := by rw [← hrr]; exact Nat.mod_lt _ (by omega)
                  have hrz : (e : Int) % rn = r := by rw [← hrr]; simp
                  have hrl : (r : Int) < rn := by omega
                  have cw := hcs r hrlt
                  have hbw : b < w.heap.size := by
                    apply Classical.byContradiction
                    intro h
                    have : w.heap[b]? = none := Array.getElem?_eq_none (by omega)
                    simp [World.cell?, this] at cw
                  have hTe := HT.out
                  have c2 := HN2.out.cells cw
                  have c3 := HC3.out.cell c2 (show ¬ b = _ by omega)
                  have c4 := HC4.out.cell c3 (show ¬ b = T by omega)
                  have ho := u64_or_nat (rows r) 1 (HRB.out r) (by decide)
                  have hv1 := Nat.right_le_or (n := rows r) (m := 1)
                  have hv2 : rows r ||| 1 < 18446744073709551616 := Nat.or_lt_two_pow (n := 64) (HRB.out r) (by decide)
                  obtain ⟨v, hv⟩ : ∃ v, rows r ||| 1 = v := ⟨_, rfl⟩
                  rw [hv] at ho hv1 hv2
                  obtain ⟨y, hy⟩ : ∃ y, rows r = y := ⟨_, rfl⟩
                  rw [hy] at ho c4
                  clear hcs cw c2 c3 hv hy hrr hTe
                  go_wp2_with fail
                  go_quiet (fail)
                  go_wp2_with fail
                  go_meet
                  exact ⟨rfl, rfl, rfl, rfl, v, congrArg (Value.int .u64) ho, hv1, hv2⟩
          case rest =>
            obtain ⟨hh, ho1, ho2, ho3, v, rfl, hv1, hv2⟩ := hcut
            have HC5 : Hid (Chg (fun b => b = T) w3 wc) := hidden ⟨ho1.trans HC4.out.os, ho2.trans HC4.out.tape, ho3.trans HC4.out.output, by rw [hh]; exact HC4.out.size, fun b hb hn => by rw [hh]; exact HC4.out.block b hb hn⟩
            have HK5 := hidden (HK4.out.of_block (w' := wc) (by rw [hh]))
            have HS5 : Hid (wc.heap.size = T + 1) := hidden (by rw [hh]; exact HS4.out)
            have ct := HK5.out.cell hk
            have ft := HK5.out.frozen k
            clear hh ho1 ho2 ho3 c5 HC4 HK4 HS4 HI4
            go_wp2_with fail
            go_roundg (n1 - (k + 1))
            case measure => omega
            case rel =>
              refine ⟨k + 1, fun m => if m = k then v else rk m, by omega, ?_, by go_num, HC5.out.setCell (.inl rfl) _, by rw [nblk_setCell]; exact HS5.out, (HK5.out.set k (.int .u64 v)).congr fun m _ => ?_, fun m hm => ?_, fun m => ?_⟩
              · rw [show idx + (k + 1) = e1 by omega]
              · by_cases h : m = k
                · simp [h]
                · simp [h]
              · show 1 ≤ if m = k then v else rk m
                split
                · exact hv1
                · exact HK1.out m (by omega)
              · show (if m = k then v else rk m) < _
                split
                · exact hv2
                · exact HK2.out m
        · obtain rfl : k = n1 := by omega
          have hkz : ¬ (k : Int) < k := by omega
          have HR4 : Hid (wr.rowIs (w.heap.size + 1 + 1) 23 n (fun m => if m < i then .slice (some ⟨w.heap.size + 3 + m, 0, none⟩) (m + 1) (m + 1) else .slice none 0 0)) := hidden (by
            have hTe := HT.out
            exact HR3.out.of_block (HC4.out.block _ (by rw [HS3.out]; omega) (by show ¬ _ = T; omega)))
          have cR := HR4.out.cell hi
          have fR := HR4.out.frozen i
          go_wp2_with fail
          go_roundg (n - (i + 1))
          case measure => omega
          case rel =>
            have hTe := HT.out
            refine ⟨i + 1, e, fun m k' => if m = i then (if k' < k then rk k' else 1) else rv m k', by omega, rfl, by go_num, by omega, ?_, by rw [nblk_setCell, HS4.out]; omega, fun m k' => ?_, (HR4.out.set i _).congr fun m hm => ?_, fun m hm => ?_⟩
            · exact (HC3.out.trans HC4.out (fun b hb h => absurd h (by have := HSZ.out; omega))).setCell (.inl rfl) _
            · show 1 ≤ (if m = i then (if k' < k then rk k' else 1) else rv m k') ∧ (if m = i then (if k' < k then rk k' else 1) else rv m k') < 18446744073709551616
              split
              · split
                · rename_i h; exact ⟨HK1.out k' h, HK2.out k'⟩
                · exact ⟨(by decide : 1 ≤ 1), (by decide : 1 < 18446744073709551616)⟩
              · exact HRV.out m k'
            · by_cases h : m = i
              · subst h
                rw [if_pos rfl, if_pos (by omega), hTe, show k = m + 1 by omega]
              · rw [if_neg h]
                by_cases h2 : m < i
                · rw [if_pos h2, if_pos (by omega)]
                · rw [if_neg h2, if_neg (by omega)]
            · by_cases h : m = i
              · subst h
                rw [← hTe]
                refine ((show k = m + 1 by omega) ▸ HK4.out.setOther (a := ⟨w.heap.size + 1 + 1, m, none⟩) (by show T ≠ w.heap.size + 1 + 1; omega) _).congr fun k' hk' => ?_
                show Value.int .u64 ((rk k' : Nat) : Int) = Value.int .u64 ((if m = m then (if k' < k then rk k' else 1) else rv m k' : Nat) : Int)
                rw [if_pos rfl, if_pos (by omega)]
              · refine (((HRo3.out m (by omega)).of_block (HC4.out.block _ (by rw [HS3.out]; omega) (by show ¬ _ = T; omega))).setOther (a := ⟨w.heap.size + 1 + 1, i, none⟩) (by show w.heap.size + 3 + m ≠ w.heap.size + 1 + 1; omega) _).congr fun k' hk' => ?_
                simp only [if_neg h]
    · obtain rfl : i = n := by omega
      have hiz : ¬ ((i : Int) < i) := by omega
      have HNw : Hid (New w wr) := hidden (HC.out.below' HN2.out (by omega))
      have HI4 : Hid (wr.heap[w.heap.size]? = some (.cells #[.int .u64 A, .int .u64 L, .int .u64 O, .int .u8 st, .int .u64 Q, .slice ra rn rc, .bool li, .bool fl, .bool db, .int .u64 BH, .int .u64 BL, .int .u8 Wd] 25)) := hidden (by
        rw [HC.out.block _ (by rw [HSZ.out]; omega) (by show ¬ _ = _; omega)]
        exact HIn.out)
      have HRe4 : Hid (wr.heap[w.heap.size + 1]? = some (.cells #[.int .u64 0, .int .u64 0] 28)) := hidden (by
        rw [HC.out.block _ (by rw [HSZ.out]; omega) (by show ¬ _ = _; omega)]
        exact HRes.out)
      have I4 := HI4.out
      have c0 : wr.cell? ⟨w.heap.size, 0, none⟩ = some (.int .u64 A) := by simp [World.cell?, I4]
      have c2 : wr.cell? ⟨w.heap.size, 2, none⟩ = some (.int .u64 O) := by simp [World.cell?, I4]
      have c6 : wr.cell? ⟨w.heap.size, 6, none⟩ = some (.bool li) := by simp [World.cell?, I4]
      have c7 : wr.cell? ⟨w.heap.size, 7, none⟩ = some (.bool fl) := by simp [World.cell?, I4]
      have c9 : wr.cell? ⟨w.heap.size, 9, none⟩ = some (.int .u64 BH) := by simp [World.cell?, I4]
      have c10 : wr.cell? ⟨w.heap.size, 10, none⟩ = some (.int .u64 BL) := by simp [World.cell?, I4]
      have c11 : wr.cell? ⟨w.heap.size, 11, none⟩ = some (.int .u8 Wd) := by simp [World.cell?, I4]
      clear I4 HC HN2 HIn HRes HR0
      have hHw : w.heap.size < wr.heap.size := by have := HT.out; omega
      obtain ⟨t, ht, htb⟩ : ∃ t : Nat, IntKind.u64.wrap ((A : Int) + O) = (t : Int) ∧ t < 18446744073709551616 := by
        refine ⟨(IntKind.u64.wrap ((A : Int) + O)).toNat, ?_, ?_⟩ <;> rw [IntKind.wrap_u64] <;> omega
      go_upto_region 22 with fail
      go_cut [90] (fun s90 wx => wx = wr ∧ s90 = .bool (li && fl))
      case first =>
        as_aux_lemma =>
          cases li
          · go_wp2_with fail
            go_meet
            exact ⟨rfl, rfl⟩
          · go_wp2_with fail
            go_meet
            exact ⟨rfl, rfl⟩
      case rest =>
        obtain ⟨rfl, rfl⟩ := hcut
        obtain ⟨lf, hlf⟩ : ∃ lf, (li && fl) = lf := ⟨_, rfl⟩
        rw [hlf]
        clear hlf
        go_upto_if 90 with fail
        go_cut [14] (fun s14 wx => wx = wc ∧ ∃ key : Nat, s14 = .int .u64 key ∧ key < 18446744073709551616)
        case first =>
          as_aux_lemma =>
            cases lf
            · go_wp2_with fail
              go_meet
              exact ⟨rfl, t, rfl, htb⟩
            · obtain ⟨t2, ht2, ht2b⟩ : ∃ t2 : Nat, IntKind.u64.wrap ((t : Int) * 2) = (t2 : Int) ∧ t2 < 18446744073709551616 := by
                refine ⟨(IntKind.u64.wrap ((t : Int) * 2)).toNat, ?_, ?_⟩ <;> rw [IntKind.wrap_u64] <;> omega
              have ha := u64_and_nat O 1 hOb (by decide)
              have hb : O &&& 1 < 18446744073709551616 := Nat.lt_of_le_of_lt Nat.and_le_left hOb
              have hc := u64_or_nat t2 (O &&& 1) ht2b hb
              have hd : t2 ||| (O &&& 1) < 18446744073709551616 := Nat.or_lt_two_pow (n := 64) ht2b hb
              go_wp2_with fail
              go_meet
              refine ⟨rfl, t2 ||| (O &&& 1), congrArg (Value.int .u64) ?_, hd⟩
              rw [← hc, ← ha]; rfl
        case rest =>
          obtain ⟨rfl, key, rfl, hkey⟩ := hcut
          clear ht htb
          go_upto_region 24 with fail
          have hE0 := est0_row wc (.int .u64 key) (.int .u64 q) (.int .i64 sp) (.slice (some ⟨w.heap.size + 1 + 1, 0, none⟩) i i)
          obtain ⟨Z, hZ⟩ : ∃ Z, zero39 = Z := ⟨_, rfl⟩
          have hz := zrow39 wc
          rw [hZ] at hz hE0
          have hZs : Z.size = 270 := by rw [← hZ]; exact zero39_size
          have hZn : ¬ Z = #[] := fun h => by rw [h] at hZs; cases hZs
          clear hZ
          go_upto_region 25 with fail
          rw [hT] at hE0
          have HE4 := hidden hE0
          have HN4 : Hid (New wc (wc.alloc (.cells ((((Z.setIfInBounds 0 (.int .u64 key)).setIfInBounds 1 (.int .u64 q)).setIfInBounds 2 (.int .i64 sp)).setIfInBounds 3 (.slice (some ⟨w.heap.size + 1 + 1, 0, none⟩) i i)) 39))) := hidden ((Chg.refl _ _).alloc _)
          have HS4 : Hid ((wc.alloc (.cells ((((Z.setIfInBounds 0 (.int .u64 key)).setIfInBounds 1 (.int .u64 q)).setIfInBounds 2 (.int .i64 sp)).setIfInBounds 3 (.slice (some ⟨w.heap.size + 1 + 1, 0, none⟩) i i)) 39)).heap.size = T + 1) := hidden (by rw [nblk_alloc, hT])
          generalize wc.alloc (.cells ((((Z.setIfInBounds 0 (.int .u64 key)).setIfInBounds 1 (.int .u64 q)).setIfInBounds 2 (.int .i64 sp)).setIfInBounds 3 (.slice (some ⟨w.heap.size + 1 + 1, 0, none⟩) i i)) 39) = w4 at *
          clear hz hE0 hT
          have c0 := HN4.out.cells c0
          have c6 := HN4.out.cells c6
          have c9 := HN4.out.cells c9
          have c10 := HN4.out.cells c10
          have c11 := HN4.out.cells c11
          have kc : ∀ j, j < 270 → w4.cell? ⟨T, j, none⟩ = some (est0 (.int .u64 key) (.int .u64 q) (.int .i64 sp) (.slice (some ⟨w.heap.size + 1 + 1, 0, none⟩) i i) j) := fun j hj => HE4.out.cell hj
          have kf := HE4.out.frozen
          have k4 := kc 4 (by omega)
          have k5 := kc 5 (by omega)
          have k6 := kc 6 (by omega)
          have k7 := kc 7 (by omega)
          have k8 := kc 8 (by omega)
          have k9 := kc 9 (by omega)
          have k10 := kc 10 (by omega)
          have k11 := kc 11 (by omega)
          clear kc
          have hTH : ¬ T = w.heap.size := by have := HT.out; omega
          have hTH' : ¬ w.heap.size = T := by have := HT.out; omega
          go_upto_if 112 with fail
          go_cut [] (fun wx => ∃ (f : Nat → Value) (ru rd : Int) (ends : Nat → Nat) (ne win : Nat), Chg (fun b => b = T) w4 wx ∧ wx.heap.size = T + 1 ∧ wx.rowIs T 39 270 f ∧ f 0 = .int .u64 key ∧ f 1 = .int .u64 q ∧ f 2 = .int .i64 sp ∧ f 3 = .slice (some ⟨w.heap.size + 1 + 1, 0, none⟩) i i ∧ f 4 = .int .i64 ru ∧ f 5 = .int .i64 rd ∧ (∀ m, m < 3 → f (6 + m) = .int .u64 (ends m)) ∧ f 9 = .int .i64 ne ∧ f 10 = .bool li ∧ f 11 = .int .u64 win ∧
            (∀ m, ends m < 18446744073709551616) ∧ win < 18446744073709551616 ∧ (li = false → ne = 1 ∧ ends 0 = key) ∧ (li = true → ne = 3 ∧ ends 0 = key ∧ ends 1 = key / 2 ∧ ends 2 = key / 2 + 9223372036854775808))
          case first =>
            cases li
            · go_wp2_with fail
              go_meet
              refine ⟨_, 0, 0, fun m => if m = 0 then key else 0, 1, 0, ((Chg.refl (fun b => b = T) w4).setCell (.inl rfl) _).setCell (.inl rfl) _, by rw [nblk_setCell, nblk_setCell]; exact HS4.out, (HE4.out.set 6 _).set 9 _, by simp [est0], by simp [est0], by simp [est0], by simp [est0], by simp [est0], by simp [est0], fun m hm => ?_, by simp [est0], by simp [est0], by simp [est0], fun m => ?_, by omega, fun _ => ⟨rfl, rfl⟩, fun h => by cases h⟩
              · rcases (show m = 0 ∨ m = 1 ∨ m = 2 by omega) with rfl | rfl | rfl <;> simp [est0]
              · show (if m = 0 then key else 0) < _
                split
                · exact hkey
                · decide
            · have LZ := fun w' => hidden (lz64 key hkey w')
              obtain ⟨x2, hx2, hx2b⟩ : ∃ x2 : Nat, bits .xor .u64 IntKind.u64.max (key : Int) = (x2 : Int) ∧ x2 < 18446744073709551616 := by
                refine ⟨18446744073709551615 ^^^ key, ?_, Nat.xor_lt_two_pow (n := 64) (by decide) hkey⟩
                exact u64_xor_nat 18446744073709551615 key (by decide) hkey
              have LX := fun w' => hidden (lz64 x2 hx2b w')
              obtain ⟨k2, hk2, hk2e⟩ : ∃ k2 : Nat, (key : Int) / 2 = (k2 : Int) ∧ k2 = key / 2 := ⟨key / 2, by omega, rfl⟩
              have hk2b : k2 < 9223372036854775808 := by omega
              have ho := u64_or_nat k2 9223372036854775808 (by omega) (by decide)
              have ho2 : k2 ||| 9223372036854775808 = k2 + 9223372036854775808 := by
                rw [Nat.or_comm, nat_join 63 9223372036854775808 k2 (by decide) hk2b]
                omega
              rw [ho2] at ho
              have HK2 := hidden hk2e
              clear ho2 hk2e
              obtain ⟨q3, hq3, hq3n⟩ : ∃ q3 : Nat, IntKind.u64.wrap (3 * (q : Int)) = (q3 : Int) ∧ 1 ≤ q3 := ⟨3 * q, by rw [wrap_id] <;> omega, by omega⟩
              have hq3z : ¬ (q3 : Int) = 0 := by omega
              obtain ⟨wn, hwn⟩ : ∃ wn : Nat, 18446744073709551615 / (q3 : Int) = (wn : Int) := ⟨18446744073709551615 / q3, by simp⟩
              obtain ⟨wi, hwi, hwib⟩ : ∃ wi : Nat, IntKind.u64.wrap (4 * (wn : Int)) = (wi : Int) ∧ wi < 18446744073709551616 := by
                refine ⟨(IntKind.u64.wrap (4 * (wn : Int))).toNat, ?_, ?_⟩ <;> rw [IntKind.wrap_u64] <;> omega
              go_wp2_with (go_at_call 7; first
                | (refine (LZ _).out.mono ?_; rintro e w7 ⟨k7, rfl, hw7, hk7⟩; have hw8 := hw7.symm; subst hw8; clear hw7 LZ)
                | (refine (LX _).out.mono ?_; rintro e w7 ⟨k8, rfl, hw7, hk8⟩; have hw8 := hw7.symm; subst hw8; clear hw7 LX))
              go_meet
              rw [show bits .or .u64 (k2 : Int) 9223372036854775808 = ((k2 + 9223372036854775808 : Nat) : Int) from ho]
              refine ⟨_, k7 + 1, k8 + 1, fun m => if m = 0 then key else if m = 1 then k2 else if m = 2 then k2 + 9223372036854775808 else 0, 3, wi, (((((((((Chg.refl (fun b => b = T) w4).setCell (.inl rfl) _).setCell (.inl rfl) _).setCell (.inl rfl) _).setCell (.inl rfl) _).setCell (.inl rfl) _).setCell (.inl rfl) _).setCell (.inl rfl) _).setCell (.inl rfl) _).setCell (.inl rfl) _, by simp only [nblk_setCell]; exact HS4.out, ((((((((HE4.out.set 6 _).set 9 _).set 4 _).set 5 _).set 7 _).set 8 _).set 9 _).set 10 _).set 11 _, by simp [est0], by simp [est0], by simp [est0], by simp [est0], by simp [est0], by simp [est0], fun m hm => ?_, by simp [est0], by simp [est0], by simp [est0], fun m => ?_, hwib, (fun h => by cases h), fun _ => ⟨rfl, rfl, HK2.out, by show k2 + 9223372036854775808 = _; rw [HK2.out]⟩⟩
              · rcases (show m = 0 ∨ m = 1 ∨ m = 2 by omega) with rfl | rfl | rfl <;> simp [est0]
              · show (if m = 0 then key else if m = 1 then k2 else if m = 2 then k2 + 9223372036854775808 else 0) < _
                split
                · exact hkey
                · split
                  · omega
                  · split
                    · omega
                    · decide
          case rest =>
            obtain ⟨f, ru, rd, ends, ne, win, hC6, hS6, hE6, f0, f1, f2, f3, f4, f5, f6, f9, f10, f11, hendb, hwinb, hlf, hlt⟩ := hcut
            have hTe := HT.out
            have HC6 := hidden hC6
            have HN6 : Hid (New w wc) := hidden (hC6.below' (New.trans HNw.out HN4.out) (by omega))
            have HE6 := hidden hE6
            have HS6 := hidden hS6
            obtain ⟨sq, hsq⟩ : ∃ sq : Sp, sq = { key := key, q := q, steps := sp, R := w.heap.size + 1 + 1, ru := ru, rd := rd, ends := ends, ne := ne, li := li, win := win, rb := fun m => w.heap.size + 3 + m, rv := rv } := ⟨_, rfl⟩
            have HOK : Hid (sq.Ok T) := hidden (by
              rw [hsq]
              refine ⟨hkey, hq1, by show q ≤ 2 ^ sp; rw [hP]; exact hq2, hs1, hs2, hendb, ?_, hwinb, by show w.heap.size + 1 + 1 ≠ T; omega, fun m hm => ?_, fun m k => (HRV.out m k).1, fun m k => (HRV.out m k).2⟩
              · cases li
                · exact .inl (hlf rfl).1
                · exact .inr (hlt rfl).1
              · have hm : m < sp + 2 := hm
                show w.heap.size + 3 + m ≠ T
                omega)
            have HAT : Hid (sq.At T wc) := hidden (by
              rw [hsq]
              have cc : ∀ j v, j < 270 → f j = v → wc.cell? ⟨T, j, none⟩ = some v := fun j v hj h => h ▸ hE6.cell hj
              have hin : i = sp + 2 := by omega
              refine ⟨cc 0 _ (by omega) f0, cc 1 _ (by omega) f1, cc 2 _ (by omega) f2, (cc 3 _ (by omega) f3).trans (by rw [hin]), cc 4 _ (by omega) f4, cc 5 _ (by omega) f5, fun m hm => cc (6 + m) _ (by omega) (f6 m hm), cc 9 _ (by omega) f9, cc 10 _ (by omega) f10, cc 11 _ (by omega) f11, fun m hm => ?_, fun m k hm hk => ?_⟩
              · have hm : m < sp + 2 := hm
                have h1 := HRr.out.cell (show m < i by omega)
                have h2 := hC6.cell (HN4.out.cells h1) (by show ¬ _ = T; simp only []; omega)
                rw [if_pos (by omega)] at h2
                exact h2
              · have hm : m < sp + 2 := hm
                exact hC6.cell (HN4.out.cells ((HRows.out m (by omega)).cell hk)) (by show ¬ _ = T; simp only []; omega))
            have HF : Hid (∀ j, wc.frozen? ⟨T, j, none⟩ = false) := hidden hE6.frozen
            have HSM : Hid (∀ j, j < 258 → (wc.cell? ⟨T, 12 + j, none⟩).isSome = true) := hidden (fun j hj => by rw [hE6.cell (show 12 + j < 270 by omega)]; rfl)
            have HRe6 : Hid (wc.heap[w.heap.size + 1]? = some (.cells #[.int .u64 0, .int .u64 0] 28)) := hidden (by
              rw [hC6.block _ (by rw [HS4.out]; omega) (by show ¬ _ = T; omega), HN4.out.block _ (Array.getElem?_eq_some_iff.1 HRe4.out).1 (fun f => f)]
              exact HRe4.out)
            have HSQ := hidden hsq
            have HLF := hidden hlf
            have HLT := hidden hlt
            have c9 := hC6.cell c9 (by show ¬ _ = T; simp only []; omega)
            have c10 := hC6.cell c10 (by show ¬ _ = T; simp only []; omega)
            have c11 := hC6.cell c11 (by show ¬ _ = T; simp only []; omega)
            have hHw : w.heap.size < wc.heap.size := by omega
            clear hC6 hE6 f0 f1 f2 f3 f4 f5 f6 f9 f10 f11 hendb hlf hlt hsq k4 k5 k6 k7 k8 k9 k10 k11 kf hTe HRr HRows HE4
            obtain ⟨top, htop, hte⟩ : ∃ top : Nat, IntKind.u64.wrap (((sp : Int) + 1) * 2 ^ sp) = (top : Int) ∧ top = (sp + 1) * P := by
              refine ⟨(sp + 1) * P, ?_, rfl⟩
              have h1 : (sp + 1) * P ≤ 31 * 1073741824 := Nat.mul_le_mul (by omega) hP1
              rw [show ((sp : Int) + 1) * 2 ^ sp = (((sp + 1) * 2 ^ sp : Nat) : Int) by simp, hP, wrap_id] <;> omega
            have htb : top ≤ 33285996544 := by
              rw [hte]
              exact Nat.mul_le_mul (show sp + 1 ≤ 31 by omega) hP1
            obtain ⟨top1, htop1, ht1⟩ : ∃ top1 : Nat, IntKind.u64.wrap ((top : Int) + 1) = (top1 : Int) ∧ top1 = top + 1 := ⟨top + 1, by rw [wrap_id] <;> omega, rfl⟩
            have ht1z : ¬ (top1 : Int) = 0 := by omega
            obtain ⟨hi, hhi, hhib⟩ : ∃ hi : Nat, (BH : Int) % top1 = (hi : Int) ∧ hi ≤ top := by
              have h1 : BH % top1 < top1 := Nat.mod_lt _ (by omega)
              exact ⟨BH % top1, by simp, by omega⟩
            have HTE := hidden hte
            clear hte ht1
            go_upto_if 167 with fail
            rw [hhi]
            clear hhi
            go_cut [18] (fun s18 wx => wx = wc ∧ ∃ lo : Nat, s18 = .int .u64 lo ∧ lo < 18446744073709551616 ∧ (hi = top → lo = 0))
            case first =>
              as_aux_lemma =>
                by_cases hht : hi = top
                · subst hht
                  go_wp2_with fail
                  go_meet
                  exact ⟨rfl, 0, rfl, by omega, fun _ => rfl⟩
                · have hhb : ((hi : Int) == (top : Int)) = false := by simp; omega
                  have hhz : ¬ (hi : Int) = (top : Int) := by omega
                  go_wp2_with fail
                  go_meet
                  exact ⟨rfl, BL, rfl, hBL, fun h => absurd h hht⟩
            case rest =>
              obtain ⟨rfl, lo, rfl, hlob, hlo0⟩ := hcut
              have HLO := hidden hlo0
              clear hlo0
              have hmle : mv sp hi lo ≤ sp + 1 := by
                unfold mv
                rw [hP]
                have hte := HTE.out
                by_cases hht : hi = top
                · rw [HLO.out hht, hht, hte, Nat.mul_div_cancel _ hP0, Nat.mul_mod_left]
                  simp
                · have h1 : hi / P ≤ sp := by
                    have h2 : hi < (sp + 1) * P := by omega
                    have := Nat.div_lt_of_lt_mul (show hi < P * (sp + 1) by rw [Nat.mul_comm]; exact h2)
                    omega
                  split <;> omega
              have HML := hidden hmle
              clear hmle HLO
              obtain ⟨q0, hq0, hq0e⟩ : ∃ q0 : Nat, (hi : Int) / 2 ^ sp = (q0 : Int) ∧ q0 = hi / 2 ^ sp := ⟨hi / 2 ^ sp, by simp, rfl⟩
              have hq0b : q0 ≤ 33285996544 := by
                rw [hq0e]
                exact Nat.le_trans (Nat.div_le_self _ _) (by omega)
              have hsw := shl_wrap sp hi (by omega)
              obtain ⟨z, hz⟩ : ∃ z, z = hi % 2 ^ sp * 2 ^ (64 - sp) := ⟨_, rfl⟩
              rw [← hz] at hsw
              have hz0 : z = 0 ↔ hi % 2 ^ sp = 0 := by
                rw [hz]
                have : 0 < 2 ^ (64 - sp) := Nat.two_pow_pos _
                constructor
                · intro h; rcases Nat.mul_eq_zero.1 h with h | h; exact h; omega
                · intro h; rw [h, Nat.zero_mul]
              have HZ0 := hidden hz0
              have HQ0 := hidden hq0e
              clear hz hz0 hq0e
              have hr32 : w.heap.size + 1 < wc.heap.size := (Array.getElem?_eq_some_iff.1 HRe6.out).1
              go_upto_region 42 with fail
              go_cut [185] (fun s185 wx => wx = wc.alloc (.cells #[.int .u64 hi, .int .u64 lo] 28) ∧ s185 = .bool (!decide (z = 0 ∧ lo = 0)))
              case first =>
                by_cases h1 : z = 0
                · subst h1
                  by_cases h2 : lo = 0
                  · subst h2
                    go_wp2_with fail
                    go_meet
                    exact ⟨rfl, rfl⟩
                  · have h2b : ((lo : Int) != 0) = true := by simp; omega
                    go_wp2_with fail
                    go_meet
                    refine ⟨rfl, ?_⟩
                    rw [decide_eq_false (fun h => h2 h.2)]; rfl
                · have h1b : ((z : Int) != 0) = true := by simp; omega
                  go_wp2_with fail
                  go_meet
                  refine ⟨rfl, ?_⟩
                  rw [decide_eq_false (fun h => h1 h.1)]; rfl
              case rest =>
                obtain ⟨rfl, rfl⟩ := hcut
                have HNA : Hid (New wc (wc.alloc (.cells #[.int .u64 hi, .int .u64 lo] 28))) := hidden ((Chg.refl _ _).alloc _)
                have HBk : Hid ((wc.alloc (.cells #[.int .u64 hi, .int .u64 lo] 28)).heap[T + 1]? = some (.cells #[.int .u64 hi, .int .u64 lo] 28)) := hidden (by
                  rw [← HS6.out]
                  exact blk_alloc_new _ _)
                have HFA : Hid (∀ j, (wc.alloc (.cells #[.int .u64 hi, .int .u64 lo] 28)).frozen? ⟨T, j, none⟩ = false) := hidden (HE6.out.alloc _).frozen
                generalize wc.alloc (.cells #[.int .u64 hi, .int .u64 lo] 28) = wA at *
                have HAA : Hid (sq.At T wA) := hidden (HAT.out.new HNA.out)
                have HNwA : Hid (New w wA) := hidden (New.trans HN6.out HNA.out)
                have HSMA : Hid (∀ j, j < 258 → (wA.cell? ⟨T, 12 + j, none⟩).isSome = true) := hidden (fun j hj => by
                  obtain ⟨v, hv⟩ := Option.isSome_iff_exists.1 (HSM.out j hj)
                  rw [HNA.out.cells hv]; rfl)
                have HReA : Hid (wA.heap[w.heap.size + 1]? = some (.cells #[.int .u64 0, .int .u64 0] 28)) := hidden (by
                  rw [HNA.out.block _ (Array.getElem?_eq_some_iff.1 HRe6.out).1 (fun f => f)]
                  exact HRe6.out)
                have c11 := HNA.out.cells c11
                have hTA : T < wA.heap.size := by
                  have := (Array.getElem?_eq_some_iff.1 HBk.out).1
                  omega
                clear HNA HE6 HS6 HC6 HAT HN6 HSM HRe6 HF hr32 HNw HI4 HRe4 HN4 HS4 hS6 hHw
                obtain ⟨M, hM⟩ : ∃ M, mv sp hi lo = M := ⟨_, rfl⟩
                have HMM := hidden hM
                have hMle : M ≤ sp + 1 := by rw [← hM]; exact HML.out
                obtain ⟨cb, hcb⟩ : ∃ cb, (!decide (z = 0 ∧ lo = 0)) = cb := ⟨_, rfl⟩
                rw [hcb]
                have HCB := hidden hcb
                clear hcb hM
                go_upto_if 185 with fail
                go_cut [20] (fun s20 wx => wx = wA ∧ s20 = .int .i64 M)
                case first =>
                  as_aux_lemma =>
                    cases cb
                    · go_wp2_with fail
                      go_meet
                      refine ⟨rfl, ?_⟩
                      have h := HCB.out
                      simp only [Bool.not_eq_false', decide_eq_true_eq] at h
                      rw [← HMM.out]
                      unfold mv
                      rw [if_pos ⟨HZ0.out.1 h.1, h.2⟩, ← HQ0.out]
                      rfl
                    · go_wp2_with fail
                      go_meet
                      refine ⟨rfl, ?_⟩
                      have h := HCB.out
                      simp only [Bool.not_eq_true', decide_eq_false_iff_not] at h
                      rw [← HMM.out]
                      unfold mv
                      rw [if_neg (fun g => h ⟨HZ0.out.2 g.1, g.2⟩), ← HQ0.out]
                      go_num
                case rest =>
                  obtain ⟨rfl, rfl⟩ := hcut
                  obtain ⟨r0, hr0⟩ : ∃ r0 : Nat, (i : Int) - M = r0 := ⟨i - M, by omega⟩
                  have hr01 : 1 ≤ r0 := by omega
                  have hr0z : ¬ (r0 : Int) = 0 := by omega
                  obtain ⟨x0, hx0⟩ : ∃ x0, Wd % r0 = x0 := ⟨_, rfl⟩
                  have hx0b : x0 < r0 := by rw [← hx0]; exact Nat.mod_lt _ hr01
                  have hxm : (Wd : Int) % r0 = (x0 : Int) := by rw [← hx0]; simp
                  have hxt : (Wd : Int).tmod r0 = (x0 : Int) := by rw [Int.tmod_eq_emod_of_nonneg (by omega)]; exact hxm
                  obtain ⟨W2, hW2⟩ : ∃ W2 : Nat, (M : Int) + x0 = W2 := ⟨M + x0, by omega⟩
                  have NA := hidden (narrow_any sq T W2 wc HOK.out HAA.out hTA HSMA.out HFA.out (by rw [HSQ.out]; show W2 ≤ sp + 1; omega))
                  clear hx0
                  go_upto_region 46 with (go_at_call 8; refine NA.out.mono ?_; rintro e w8 ⟨rfl, hS8, al, near, hN8, hM8⟩)
                  have HS8 := hidden hS8
                  have HN8 := hidden hN8
                  have HM8 := hidden hM8
                  have hTe := HT.out
                  have HBk8 : Hid (w8.heap[T + 1]? = some (.cells #[.int .u64 hi, .int .u64 lo] 28)) := hidden (by
                    rw [hS8.chg.block _ (Array.getElem?_eq_some_iff.1 HBk.out).1 (by show ¬ _ = T; omega)]
                    exact HBk.out)
                  have HRe8 : Hid (w8.heap[w.heap.size + 1]? = some (.cells #[.int .u64 0, .int .u64 0] 28)) := hidden (by
                    rw [hS8.chg.block _ (Array.getElem?_eq_some_iff.1 HReA.out).1 (by show ¬ _ = T; omega)]
                    exact HReA.out)
                  have B8 := HBk8.out
                  have R8 := HRe8.out
                  have t0 : w8.cell? ⟨T + 1, 0, none⟩ = some (.int .u64 hi) := by simp [World.cell?, B8]
                  have t1 : w8.cell? ⟨T + 1, 1, none⟩ = some (.int .u64 lo) := by simp [World.cell?, B8]
                  have r0c : w8.cell? ⟨w.heap.size + 1, 0, none⟩ = some (.int .u64 0) := by simp [World.cell?, R8]
                  have r1c : w8.cell? ⟨w.heap.size + 1, 1, none⟩ = some (.int .u64 0) := by simp [World.cell?, R8]
                  have rf0 : w8.frozen? ⟨w.heap.size + 1, 0, none⟩ = false := by simp [World.frozen?, R8]
                  have rf1 : w8.frozen? ⟨w.heap.size + 1, 1, none⟩ = false := by simp [World.frozen?, R8]
                  clear hS8 hN8 hM8 B8 R8 NA hTe
                  go_region
                  go_wp2_with fail
                  refine bodyPost_ret (v := .tuple #[.pointer (some ⟨T, 0, none⟩), .agg #[.int .u64 hi, .int .u64 lo], .int .u64 key]) (by simp [results, Ybad.results4, go_sem, r0c, r1c]; try rfl) rfl ?_
                  have hTe := HT.out
                  have hq := HSQ.out
                  have hC : Chg (fun b => b = w.heap.size + 1) w8 (((w8.setCell ⟨w.heap.size + 1, 0, none⟩ (.int .u64 hi)).setCell ⟨w.heap.size + 1, 1, none⟩ (.int .u64 lo)).drew) := (((Chg.refl (fun b => b = w.heap.size + 1) w8).setCell (.inl rfl) _).setCell (.inl rfl) _).drew
                  refine ⟨sq, T, hi, lo, al, near, by rw [show sq.key = key by rw [hq]], hC.below' (HS8.out.chg.below' HNwA.out (by omega)) (by omega), by omega, Nat.lt_of_lt_of_le hTA (Nat.le_trans HS8.out.chg.size hC.size), HOK.out, ?_, ?_, HM8.out, by omega, hlob, ?_, ?_, ?_⟩
                  · refine (HAA.out.step HS8.out HOK.out).chg hC (by show ¬ T = w.heap.size + 1; omega) ?_ ?_
                    · rw [hq]; show ¬ w.heap.size + 1 + 1 = w.heap.size + 1; omega
                    · intro m hm
                      rw [hq]; show ¬ w.heap.size + 3 + m = w.heap.size + 1; omega
                  · exact HN8.out.of_block (hC.block T (by have := HS8.out.chg.size; omega) (by show ¬ T = w.heap.size + 1; omega))
                  · rw [hq]; exact HML.out
                  · rw [hq]; exact HLF.out
                  · rw [hq]; exact HLT.out
end Go.Proofs.YbulkcjdgDoor
