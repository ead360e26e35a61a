import Derived.Test.YbulkcjdgDoorZ14
namespace Go.Proofs.YbulkcjdgDoor
open Go.RowKit
open Go.Deep
set_option linter.unusedVariables false
set_option linter.unusedSimpArgs false

theorem RowsIn.new {w w' : World} {ra : Option Addr} {rn : Nat} {rows : Nat → Nat} (h : RowsIn w ra rn rows) (hN : New w w') : RowsIn w' ra rn rows := by
  rcases h with h | ⟨b, o, e, h⟩
  · exact .inl h
  · exact .inr ⟨b, o, e, fun j hj => hN.cells (h j hj)⟩

set_option maxRecDepth 100000 in
set_option maxHeartbeats 8000000 in
theorem law_any (A L O st Q rn rc BH BL Wd : Nat) (ra : Option Addr) (rows : Nat → Nat) (li fl db : Bool) (w : World) (hA : A < 18446744073709551616) (hL : L < 18446744073709551616) (hOb : O < 18446744073709551616) (hst : st < 256) (hQ : Q < 18446744073709551616) (hrn : rn ≤ 9223372036854775807) (hrb : ∀ j, rows j < 18446744073709551616) (hr : RowsIn w ra rn rows) (hBH : BH < 18446744073709551616) (hBL : BL < 18446744073709551616) (hWd : Wd < 256) (hT : Tab w) :
    Calls Ybad.prog 3 #[.agg #[.int .u64 A, .int .u64 L, .int .u64 O, .int .u8 st, .int .u64 Q, .slice ra rn rc, .bool li, .bool fl, .bool db, .int .u64 BH, .int .u64 BL, .int .u8 Wd]] w fun e w' => e = .returned (.bool true) ∧ New w w' := by
  by_cases hrn2 : rn ≤ 1024
  · have hrnz : ¬ (1024 : Int) < rn := by omega
    have BU := hidden (build_any A L O st Q rn rc BH BL Wd ra rows li fl db (w.alloc (.cells #[.int .u64 A, .int .u64 L, .int .u64 O, .int .u8 st, .int .u64 Q, .slice ra rn rc, .bool li, .bool fl, .bool db, .int .u64 BH, .int .u64 BL, .int .u8 Wd] 25)) hA hOb hst hQ hrn2 hrb (hr.new ((Chg.refl _ w).alloc _)) hBH hBL hWd)
    have HT := hidden hT
    clear hT hr hrb
    go_enter Ybad.func3, Ybad.ntmps3
    go_upto_region 4 with (go_at_call 4; refine BU.out.mono ?_; rintro e w4 ⟨s, E, bh, bl, al, near, rfl, hN4, hE1, hE2, hO4, hA4, hNr4, hM4, hbh, hbl, hmv, hlf, hlt⟩)
    have hIn5 : (w4.alloc (.cells #[.int .u64 bh, .int .u64 bl] 28)).heap[w.heap.size]? = some (.cells #[.int .u64 A, .int .u64 L, .int .u64 O, .int .u8 st, .int .u64 Q, .slice ra rn rc, .bool li, .bool fl, .bool db, .int .u64 BH, .int .u64 BL, .int .u8 Wd] 25) := by
      have h1 : w.heap.size < (w.alloc (.cells #[.int .u64 A, .int .u64 L, .int .u64 O, .int .u8 st, .int .u64 Q, .slice ra rn rc, .bool li, .bool fl, .bool db, .int .u64 BH, .int .u64 BL, .int .u8 Wd] 25)).heap.size := by rw [nblk_alloc]; omega
      rw [blk_alloc_lt _ _ _ (Nat.lt_of_lt_of_le h1 hN4.size), hN4.block _ h1 (fun f => f)]
      exact blk_alloc_new _ _
    have hD5 : (w4.alloc (.cells #[.int .u64 bh, .int .u64 bl] 28)).heap[w4.heap.size]? = some (.cells #[.int .u64 bh, .int .u64 bl] 28) := blk_alloc_new _ _
    have hN5 : New w (w4.alloc (.cells #[.int .u64 bh, .int .u64 bl] 28)) := (New.trans ((Chg.refl _ w).alloc _) hN4).alloc _
    have hA5 := hA4.new ((Chg.refl (fun _ => False) w4).alloc (.cells #[.int .u64 bh, .int .u64 bl] 28))
    have hNr5 := hNr4.alloc hE2 (.cells #[.int .u64 bh, .int .u64 bl] 28)
    have hE5 : E < (w4.alloc (.cells #[.int .u64 bh, .int .u64 bl] 28)).heap.size := by rw [nblk_alloc]; omega
    generalize w4.alloc (.cells #[.int .u64 bh, .int .u64 bl] 28) = w5 at *
    obtain ⟨D, hD⟩ : ∃ D, w4.heap.size = D := ⟨_, rfl⟩
    rw [hD] at hD5 ⊢
    have hT5 := HT.out.new hN5
    have HIn5 := hidden hIn5
    have HD5 := hidden hD5
    have HN5 := hidden hN5
    have HA5 := hidden hA5
    have HO := hidden hO4
    have HLF := hidden hlf
    have HLT := hidden hlt
    have c1 : w5.cell? ⟨w.heap.size, 1, none⟩ = some (.int .u64 L) := by simp [World.cell?, hIn5]
    have c0 : w5.cell? ⟨w.heap.size, 0, none⟩ = some (.int .u64 A) := by simp [World.cell?, hIn5]
    have c8 : w5.cell? ⟨w.heap.size, 8, none⟩ = some (.bool db) := by simp [World.cell?, hIn5]
    have d0 : w5.cell? ⟨D, 0, none⟩ = some (.int .u64 bh) := by simp [World.cell?, hD5]
    have d1 : w5.cell? ⟨D, 1, none⟩ = some (.int .u64 bl) := by simp [World.cell?, hD5]
    have AR := fun n (h1 : 1 ≤ n) (h2 : n < 18446744073709551616) => hidden (arc_any s E al A n bh bl near db w5 hO4 hA5 hNr5 hT5 hE5 hM4 hA h2 h1 hbh hbl hmv)
    clear hIn5 hD5 hN5 hA5 hNr5 hT5 hN4 hA4 hNr4 hM4 hO4 hlf hlt hD BU HT hmv hE1 hE2
    go_upto_if 24 with fail
    go_cut [6] (fun s6 wx => wx = w5 ∧ ∃ n : Nat, s6 = .int .u64 n ∧ 1 ≤ n ∧ n < 18446744073709551616)
    case first =>
      by_cases h0 : L = 0
      · subst h0
        go_wp2_with fail
        go_meet
        exact ⟨rfl, 1, rfl, by omega, by omega⟩
      · have h0b : ((L : Int) == 0) = false := by simp; omega
        have h0z : ¬ (L : Int) = 0 := by omega
        go_wp2_with fail
        go_meet
        exact ⟨rfl, L, rfl, by omega, hL⟩
    case rest =>
      obtain ⟨rfl, n, rfl, hn1, hn2⟩ := hcut
      go_upto_region 8 with (go_at_call 5; refine (AR n hn1 hn2).out.mono ?_; rintro e w6 ⟨eh, el, W, h, rfl, hN6, hI6, hh6⟩)
      have hG : (w6.alloc (.cells #[.int .u64 eh, .int .u64 el] 28)).heap[w6.heap.size]? = some (.cells #[.int .u64 eh, .int .u64 el] 28) := blk_alloc_new _ _
      have hN7 : New wc (w6.alloc (.cells #[.int .u64 eh, .int .u64 el] 28)) := hN6.alloc _
      generalize w6.alloc (.cells #[.int .u64 eh, .int .u64 el] 28) = w7 at *
      obtain ⟨G, hGe⟩ : ∃ G, w6.heap.size = G := ⟨_, rfl⟩
      rw [hGe] at hG ⊢
      have hIn7 : w7.heap[w.heap.size]? = some (.cells #[.int .u64 A, .int .u64 L, .int .u64 O, .int .u8 st, .int .u64 Q, .slice ra rn rc, .bool li, .bool fl, .bool db, .int .u64 BH, .int .u64 BL, .int .u8 Wd] 25) := by
        rw [hN7.block _ (Array.getElem?_eq_some_iff.1 HIn5.out).1 (fun f => f)]
        exact HIn5.out
      have hD7 : w7.heap[D]? = some (.cells #[.int .u64 bh, .int .u64 bl] 28) := by
        rw [hN7.block _ (Array.getElem?_eq_some_iff.1 HD5.out).1 (fun f => f)]
        exact HD5.out
      have hA7 := HA5.out.new hN7
      have c0 : w7.cell? ⟨w.heap.size, 0, none⟩ = some (.int .u64 A) := by simp [World.cell?, hIn7]
      have c6 : w7.cell? ⟨w.heap.size, 6, none⟩ = some (.bool li) := by simp [World.cell?, hIn7]
      have d0 : w7.cell? ⟨D, 0, none⟩ = some (.int .u64 bh) := by simp [World.cell?, hD7]
      have d1 : w7.cell? ⟨D, 1, none⟩ = some (.int .u64 bl) := by simp [World.cell?, hD7]
      have g0 : w7.cell? ⟨G, 0, none⟩ = some (.int .u64 eh) := by simp [World.cell?, hG]
      have g1 : w7.cell? ⟨G, 1, none⟩ = some (.int .u64 el) := by simp [World.cell?, hG]
      have hEc := hA7.c2
      have hDl : D < w7.heap.size := (Array.getElem?_eq_some_iff.1 hD7).1
      have hGl : G < w7.heap.size := (Array.getElem?_eq_some_iff.1 hG).1
      have hHl : w.heap.size < w7.heap.size := (Array.getElem?_eq_some_iff.1 hIn7).1
      have hEl : E < w7.heap.size := Nat.lt_of_lt_of_le hE5 hN7.size
      have HN7 := hidden (New.trans HN5.out hN7)
      have HI := hidden hI6
      have HH := hidden hh6
      have hkey := HO.out.key
      have hu0 := up64_wrap s.key A hkey hA
      obtain ⟨u0, hu0e⟩ : ∃ u0, up64 s.key A = u0 := ⟨_, rfl⟩
      rw [hu0e] at hu0
      have HU0 := hidden hu0e
      clear hN6 hI6 hh6 hG hN7 hIn7 hD7 hA7 hGe HIn5 HD5 HN5 HA5 AR hu0e
      go_upto_if 43 with fail
      go_cut [9] (fun s9 wx => wx = w7 ∧ ∃ hb : Bool, s9 = .bool hb ∧ (hb = true ↔ hits s.ends A n s.ne))
      case first =>
        cases li
        · obtain ⟨e1, e2⟩ := HLF.out rfl
          go_wp2_with fail
          go_meet
          refine ⟨rfl, decide (u0 < n), by simp, ?_⟩
          rw [decide_eq_true_iff, e1]
          constructor
          · intro h; exact ⟨0, by omega, by rw [e2, HU0.out]; exact h⟩
          · rintro ⟨m, hm, h⟩
            obtain rfl : m = 0 := by omega
            rw [e2, HU0.out] at h; exact h
        · obtain ⟨e1, e2, e3, e4⟩ := HLT.out rfl
          obtain ⟨k2, hk2, hk2e⟩ : ∃ k2 : Nat, (s.key : Int) / 2 = (k2 : Int) ∧ k2 = s.key / 2 := ⟨s.key / 2, by omega, rfl⟩
          have hk2b : k2 < 9223372036854775808 := by omega
          have ho := u64_or_nat k2 9223372036854775808 (by omega) (by decide)
          have ho2 : k2 ||| 9223372036854775808 = k2 + 9223372036854775808 := by
            rw [Nat.or_comm, nat_join 63 9223372036854775808 k2 (by decide) hk2b]
            omega
          rw [ho2] at ho
          obtain ⟨k3, hk3⟩ : ∃ k3, k2 + 9223372036854775808 = k3 := ⟨_, rfl⟩
          rw [hk3] at ho
          have ho3 : bits .or .u64 (k2 : Int) 9223372036854775808 = (k3 : Int) := ho
          have hu1 := up64_wrap k2 A (by omega) hA
          have hu2 := up64_wrap k3 A (by omega) hA
          obtain ⟨u1, hu1e⟩ : ∃ u1, up64 k2 A = u1 := ⟨_, rfl⟩
          obtain ⟨u2, hu2e⟩ : ∃ u2, up64 k3 A = u2 := ⟨_, rfl⟩
          rw [hu1e] at hu1
          rw [hu2e] at hu2
          have HX : Hid (hits s.ends A n s.ne ↔ u0 < n ∨ u1 < n ∨ u2 < n) := hidden (by
            rw [e1]
            constructor
            · rintro ⟨m, hm, h⟩
              rcases (show m = 0 ∨ m = 1 ∨ m = 2 by omega) with rfl | rfl | rfl
              · rw [e2, HU0.out] at h; exact .inl h
              · rw [e3, ← hk2e, hu1e] at h; exact .inr (.inl h)
              · rw [e4, ← hk2e, hk3, hu2e] at h; exact .inr (.inr h)
            · rintro (h | h | h)
              · exact ⟨0, by omega, by rw [e2, HU0.out]; exact h⟩
              · exact ⟨1, by omega, by rw [e3, ← hk2e, hu1e]; exact h⟩
              · exact ⟨2, by omega, by rw [e4, ← hk2e, hk3, hu2e]; exact h⟩)
          clear ho ho2 hu1e hu2e hk2e hk3 e1 e2 e3 e4
          by_cases h1 : u1 < n
          · have h1z : (u1 : Int) < n := by omega
            go_wp2_with fail
            go_meet
            exact ⟨rfl, true, rfl, ⟨fun _ => HX.out.2 (.inr (.inl h1)), fun _ => rfl⟩⟩
          · have h1z : ¬ (u1 : Int) < n := by omega
            by_cases h2 : u2 < n
            · have h2z : (u2 : Int) < n := by omega
              go_wp2_with fail
              go_meet
              exact ⟨rfl, true, rfl, ⟨fun _ => HX.out.2 (.inr (.inr h2)), fun _ => rfl⟩⟩
            · have h2z : ¬ (u2 : Int) < n := by omega
              go_wp2_with fail
              go_meet
              refine ⟨rfl, decide (u0 < n), by simp, ?_⟩
              rw [decide_eq_true_iff, HX.out]
              exact ⟨.inl, fun h => h.elim id (fun h => absurd h (by omega))⟩
      case rest =>
        obtain ⟨rfl, hb, rfl, hhb⟩ := hcut
        have HHB := hidden hhb
        clear hhb
        go_upto_region 13 with fail
        go_cut [64] (fun s64 wx => wx = wc.alloc (.cells #[.int .u64 0, .int .u64 0] 28) ∧ s64 = .bool (decide (bh = 0 ∧ bl = 0)))
        case first =>
          by_cases h1 : bh = 0
          · subst h1
            by_cases h2 : bl = 0
            · subst h2
              go_wp2_with fail
              go_meet
              exact ⟨rfl, rfl⟩
            · have h2z : ¬ (bl : Int) = 0 := by omega
              have h2b : ((bl : Int) == 0) = false := by simp; omega
              go_wp2_with fail
              go_meet
              refine ⟨rfl, ?_⟩
              rw [decide_eq_false (fun h => h2 h.2)]
          · have h1z : ¬ (bh : Int) = 0 := by omega
            have h1b : ((bh : Int) == 0) = false := by simp; omega
            go_wp2_with fail
            go_meet
            refine ⟨rfl, ?_⟩
            rw [decide_eq_false (fun h => h1 h.1)]
        case rest =>
          obtain ⟨rfl, rfl⟩ := hcut
          have HNZ := hidden (HN7.out.alloc (.cells #[.int .u64 0, .int .u64 0] 28))
          by_cases hbz : bh = 0 ∧ bl = 0
          · rw [decide_eq_true hbz]
            obtain ⟨rfl, rfl⟩ := hbz
            rcases HI.out.st with ⟨rfl, rfl, rfl⟩ | ⟨_, _, h3⟩
            · go_wp2_with fail
              go_ret
              exact ⟨rfl, HNZ.out⟩
            · exact absurd ⟨rfl, rfl⟩ (less_nz h3)
          · rw [decide_eq_false hbz]
            cases hb
            · have hnh : ¬ hits s.ends A n s.ne := fun h => by
                have := HHB.out.2 h
                cases this
              have hne := HI.out.ms (fun h => h.elim hnh hbz)
              have HNE := hidden hne
              have hst := HI.out.st
              clear hne hnh
              go_upto_region 17 with fail
              go_cut [82] (fun s82 wx => wx = wc.alloc (.cells #[.int .u64 0, .int .u64 0] 28) ∧ s82 = .bool false)
              case first =>
                by_cases h1 : eh = 0
                · subst h1
                  have h2 : ¬ el = 0 := fun h => HNE.out ⟨rfl, h⟩
                  have h2z : ¬ (el : Int) = 0 := by omega
                  have h2b : ((el : Int) == 0) = false := by simp; omega
                  go_wp2_with fail
                  go_meet
                  exact ⟨rfl, rfl⟩
                · have h1z : ¬ (eh : Int) = 0 := by omega
                  have h1b : ((eh : Int) == 0) = false := by simp; omega
                  go_wp2_with fail
                  go_meet
                  exact ⟨rfl, rfl⟩
              case rest =>
                obtain ⟨rfl, rfl⟩ := hcut
                rcases hst with ⟨rfl, rfl, rfl⟩ | ⟨h1, h2, h3⟩
                · go_wp2_with fail
                  go_ret
                  exact ⟨rfl, HNZ.out⟩
                · have h1n : ¬ h = -1 := by omega
                  have h1b : (h == -1) = false := by simp; omega
                  have LS := hidden (less_any eh el bh bl (wc.alloc (.cells #[.int .u64 0, .int .u64 0] 28)))
                  rw [h3] at LS
                  clear h3
                  go_wp2_with (go_at_call 6; refine LS.out.mono ?_; rintro e w9 ⟨rfl, hw9⟩)
                  go_ret
                  exact ⟨rfl, New.trans HNZ.out hw9⟩
            · obtain ⟨rfl, rfl, rfl⟩ := HH.out (HHB.out.1 rfl) hbz
              go_wp2_with fail
              go_ret
              exact ⟨rfl, HNZ.out⟩
  · have hrnz : (1024 : Int) < rn := by omega
    go_enter Ybad.func3, Ybad.ntmps3
    go_wp2_with fail
    go_ret
    exact ⟨rfl, (Chg.refl _ w).alloc _⟩
end Go.Proofs.YbulkcjdgDoor
