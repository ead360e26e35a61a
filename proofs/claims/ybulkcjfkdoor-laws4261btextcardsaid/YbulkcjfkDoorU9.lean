import Derived.Test.YbulkcjfkDoorU8
namespace Go.Proofs.YbulkcjfkDoor
open Go.RowKit Go.Deep
set_option linter.unusedVariables false
set_option linter.unusedSimpArgs false

set_option maxRecDepth 100000 in
set_option maxHeartbeats 8000000 in
theorem law_small (pre mN fN g z d oN wr : ByteArray) (lb : Int) (hlb0 : 0 ≤ lb) (hlb1 : lb ≤ 255) (pr on zz : Bool) (w : World) (h0 : pre.size ≤ 4096) (h1 : mN.size ≤ 4096) (h2 : fN.size ≤ 4096) (h3 : g.size ≤ 4096) (h4 : z.size ≤ 4096) (h5 : d.size ≤ 4096) (h6 : oN.size ≤ 4096) (h7 : wr.size ≤ 4096) :
    Calls Ybad.prog 4 #[.string pre, .string mN, .string fN, .string g, .string z, .string d, .string oN, .string wr, .int .u8 lb, .bool pr, .bool on, .bool zz] w fun e w' => e = .returned (.bool true) ∧ Below w.heap.size w w' := by
  have z0 : ¬ (4096 : Int) < pre.size := by omega
  have z1 : ¬ (4096 : Int) < mN.size := by omega
  have z2 : ¬ (4096 : Int) < fN.size := by omega
  have z3 : ¬ (4096 : Int) < g.size := by omega
  have z4 : ¬ (4096 : Int) < z.size := by omega
  have z5 : ¬ (4096 : Int) < d.size := by omega
  have z6 : ¬ (4096 : Int) < oN.size := by omega
  have z7 : ¬ (4096 : Int) < wr.size := by omega
  go_enter Ybad.func4, Ybad.ntmps4
  go_upto_if 70 with fail
  go_cut [4] (fun s4 wx => wx = w ∧ ∃ z' : ByteArray, s4 = .string z' ∧ z'.size ≤ 4096)
  case first =>
    cases zz
    · go_wp2_with fail
      go_meet
      exact ⟨rfl, z, rfl, h4⟩
    · go_wp2_with fail
      go_meet
      exact ⟨rfl, _, rfl, by decide⟩
  case rest =>
    obtain ⟨hwc, z', rfl, h4'⟩ := hcut
    have hw9 := hwc.symm
    subst hw9
    clear hwc z0 z1 z2 z3 z4 z5 z6 z7
    go_upto_block 0 with fail
    go_cut [25] (fun s25 wx => wx = w ∧ ∃ lbl : Int, s25 = .int .i32 lbl ∧ (lbl = 1 ∨ lbl = 2 ∨ lbl = 3))
    case first =>
      go_wp2_with fail
      all_goals go_meet
      all_goals exact ⟨rfl, _, rfl, by decide⟩
    case rest =>
      obtain ⟨hwc, lbl, rfl, hl3⟩ := hcut
      have hw9 := hwc.symm
      subst hw9
      clear hwc
      obtain ⟨rep, hrep⟩ : ∃ rep, (lbl == 3) = rep := ⟨_, rfl⟩
      obtain ⟨T, hT⟩ : ∃ T, w.heap.size = T := ⟨_, rfl⟩
      go_upto_if 94 with fail
      obtain ⟨a1, a2, a3, a4, a5⟩ := laid3 w T hT (kO g z') (qO lbl) (fO (T + 1) T none fN wr d pr)
      go_cut [] (fun wx => T + 3 ≤ wx.heap.size ∧ Below T w wx ∧ ∃ on' : Option Nat, on'.isSome = on ∧ G0 wx (T + 1 + 1) T (T + 1) on' lbl pr fN g z' d oN wr)
      case first =>
        cases on
        · go_wp2_with fail
          go_meet
          refine ⟨Nat.le_of_eq a1.symm, a2, none, rfl, ⟨_, _, a5, rfl, rfl, rfl, rfl, rfl, rfl, rfl⟩, ⟨_, _, a3, rfl, rfl, rfl⟩, ⟨_, _, a4, rfl⟩, fun o h => by cases h⟩
        · obtain ⟨d1, d2, d3, d4, d5, d6⟩ := laid4 w T hT (kO g z') (qO lbl) (fO (T + 1) T (some ⟨T + 1 + 1 + 1, 0, none⟩) fN wr d pr) (.cells #[.string { data := #[] }, .string oN, .string { data := #[] }, .slice none 0 0] 57)
          have HD := hidden (And.intro d1 (And.intro d2 (And.intro d3 (And.intro d4 (And.intro d5 d6)))))
          clear d1 d2 d3 d4 d5 d6 a1 a2 a3 a4 a5
          go_wp2_with fail
          go_meet
          obtain ⟨d1, d2, d3, d4, d5, d6⟩ := HD.out
          refine ⟨Nat.le_trans (Nat.le_succ _) (Nat.le_of_eq d1.symm), d2, some (T + 1 + 1 + 1), rfl, ⟨_, _, d5, rfl, rfl, rfl, rfl, rfl, rfl, rfl⟩, ⟨_, _, d3, rfl, rfl, rfl⟩, ⟨_, _, d4, rfl⟩, fun o h => ?_⟩
          obtain rfl := Option.some.inj h
          exact ⟨_, _, d6, rfl⟩
      case rest =>
        obtain ⟨hs3, hbl, on', hon, hG⟩ := hcut
        have HG := hidden hG
        have HBl := hidden hbl
        have HON := hidden hon
        have HL3 := hidden hl3
        have HREP := hidden hrep
        have HT := hidden hT
        clear hG hbl hon hl3 hrep hT a1 a2 a3 a4 a5
        obtain ⟨S, hS⟩ : ∃ S, wc.heap.size = S := ⟨_, rfl⟩
        go_upto_region 19 with fail
        obtain ⟨e1, e2, e3, e4, e5⟩ := laid3 wc S hS (.cells #[.string { data := #[] }, .slice none 0 0, .slice none 0 0, .slice none 0 0, .bool false, .slice none 0 0] 64) (.cells #[.pointer (some ⟨S, 0, none⟩), .pointer none, .string mN, .string { data := #[] }, .slice none 0 0, .slice none 0 0, .string { data := #[] }, .string { data := #[] }, .bool false] 68) (.cells #[.slice none 0 0, .int .i64 0, .int .i8 0] 43)
        generalize (((wc.alloc (.cells #[.string { data := #[] }, .slice none 0 0, .slice none 0 0, .slice none 0 0, .bool false, .slice none 0 0] 64)).alloc (.cells #[.pointer (some ⟨S, 0, none⟩), .pointer none, .string mN, .string { data := #[] }, .slice none 0 0, .slice none 0 0, .string { data := #[] }, .string { data := #[] }, .bool false] 68)).alloc (.cells #[.slice none 0 0, .int .i64 0, .int .i8 0] 43)) = w4 at e1 e2 e3 e4 e5 ⊢
        have hI0 : LibA.IsBuffer 43 (fun _ => none) 5 (S + 1 + 1) (S + 1 + 1) 0 [] w4 := LibA.zero_isBuffer (Nat.le_refl _) (LibA.three_whole e5)
        have hps : pre.data.toList.length = pre.size := by rw [Lib.size_eq]
        have WS := hidden (Ybad.writeString 43 (fun _ => none) (S + 1 + 1) (S + 1 + 1) 0 [] pre w4 hI0 (by omega) (by simp) (by simp; omega))
        have HGt := hidden (HG.out.gt (w' := w4) (b := S + 1 + 1) (m := S + 1) (mN := mN) (fun j hj => e2.block j (by omega)) (by omega) ⟨_, _, e4, rfl⟩ (by omega))
        have hTS : T + 3 ≤ S := by omega
        have HB4 := hidden (HBl.out.trans (e2.mono (by omega)))
        have HE1 := hidden e1
        clear e1 e2 e3 e4 e5 hI0 HBl HG hs3 hS
        go_upto_region 20 with (go_at_call 5; refine WS.out.mono ?_; rintro e w5 ⟨rfl, hI5, hB5, hK5⟩)
        rw [List.nil_append] at hI5
        have HP5 := hidden (show Pt w5 (S + 1 + 1) (S + 1 + 1) (T + 1 + 1) T (S + 1) (T + 1) on' lbl pr mN fN g z' d oN wr pre.data.toList w5 from ⟨hI5, Below.refl _ _, HGt.out.kept hK5, Lib.OthersKept.refl 5 _ w5⟩)
        have HB5 := hidden (HB4.out.trans (hB5.mono (show T ≤ S + 1 + 1 by omega)))
        have h5s : S + 1 + 1 ≤ w5.heap.size := by have := hB5.size; have := HE1.out; omega
        clear hI5 hB5 hK5 WS HGt HB4 HE1
        obtain ⟨zn, hzn⟩ : ∃ zn, (z'.toList == [110, 105, 108]) = zn := ⟨_, rfl⟩
        obtain ⟨dn, hd0, hd1⟩ := dn_of d
        have GE := hidden (getter_any w5 (S + 1 + 1) (S + 1 + 1) (T + 1 + 1) T (S + 1) (T + 1) on' lbl pr rep zn dn mN fN g z' d oN wr pre.data.toList HP5.out h5s (by rw [hps]; exact h0) h1 h2 h3 h4' h5 h6 h7 (fun h => by have := HREP.out; rw [h] at this; simpa using this) (fun h => by have := HREP.out; rw [h] at this; simpa using this) hzn hd0 hd1)
        have M := fun w6 : World => hidden (model_any mN fN g z' d oN wr rep pr on zn dn w6 h1 h2 h3 h4' h5 h6 h7 hzn (by rw [← hzn]; rfl) hd0 hd1)
        have hms : mN.data.toList.length ≤ 4096 := by rw [← Lib.size_eq]; exact h1
        have hfs : fN.data.toList.length ≤ 4096 := by rw [← Lib.size_eq]; exact h2
        have hgs : g.data.toList.length ≤ 4096 := by rw [← Lib.size_eq]; exact h3
        have hzs : z'.data.toList.length ≤ 4096 := by rw [← Lib.size_eq]; exact h4'
        have hds : d.data.toList.length ≤ 4096 := by rw [← Lib.size_eq]; exact h5
        have hos : oN.data.toList.length ≤ 4096 := by rw [← Lib.size_eq]; exact h6
        have hws : wr.data.toList.length ≤ 4096 := by rw [← Lib.size_eq]; exact h7
        obtain ⟨G, hGe⟩ : ∃ G, getText mN.data.toList fN.data.toList g.data.toList z'.data.toList d.data.toList oN.data.toList wr.data.toList rep pr on zn dn = G := ⟨_, rfl⟩
        have hGl : G.length ≤ 100000 := by rw [← hGe]; exact getText_len hms hfs hgs hzs hds hos hws
        rw [HON.out, hGe] at GE
        simp only [hGe] at M
        clear hd0 hd1 hzn hGe hms hfs hgs hzs hds hos hws
        go_upto_region 21 with (go_at_call 9; refine GE.out.mono ?_; rintro e w6 ⟨rfl, hP6⟩)
        have HP6 := hidden hP6
        have HB6 := hidden (HB5.out.trans (hP6.bel.mono (show T ≤ S + 1 + 1 by omega)))
        have M6 := M w6
        clear hP6 GE M HP5 HB5
        go_upto_region 22 with (go_at_call 10; refine M6.out.mono ?_; rintro e w9 ⟨r, rfl, hw9, hr⟩; have hw8 := hw9.symm; subst hw8; have hrs : r.size ≤ 100000 := (by rw [Lib.size_eq, hr]; exact hGl); have HR := hidden hr; clear hr)
        have hq : (⟨(pre.data.toList ++ G).toArray⟩ : ByteArray) = pre ++ r := by
          rw [← HR.out]
          apply ByteArray.ext
          simp [ByteArray.data_append]
        have hb := Ybad.bufString 43 (fun _ => none) (S + 1 + 1) (S + 1 + 1) 0 (pre.data.toList ++ G) w6 HP6.out.buf
        rw [hq] at hb
        have BS := hidden hb
        clear hb hq M6
        go_wp2_with (go_at_call 8; refine BS.out.mono ?_; rintro e w7 ⟨rfl, n7, rfl⟩)
        go_ret
        have hBw := HB6.out
        rw [← HT.out] at hBw
        exact ⟨rfl, hBw.1, hBw.2, hBw.3, hBw.4, hBw.5⟩

theorem law_all (pre mN fN g z d oN wr : ByteArray) (lb : Int) (hlb0 : 0 ≤ lb) (hlb1 : lb ≤ 255) (pr on zz : Bool) (w : World) (b0 : pre.size ≤ 9223372036854775807) (b1 : mN.size ≤ 9223372036854775807) (b2 : fN.size ≤ 9223372036854775807) (b3 : g.size ≤ 9223372036854775807) (b4 : z.size ≤ 9223372036854775807) (b5 : d.size ≤ 9223372036854775807) (b6 : oN.size ≤ 9223372036854775807) (b7 : wr.size ≤ 9223372036854775807) :
    Calls Ybad.prog 4 #[.string pre, .string mN, .string fN, .string g, .string z, .string d, .string oN, .string wr, .int .u8 lb, .bool pr, .bool on, .bool zz] w fun e w' => e = .returned (.bool true) ∧ Below w.heap.size w w' := by
  by_cases h : pre.size ≤ 4096 ∧ mN.size ≤ 4096 ∧ fN.size ≤ 4096 ∧ g.size ≤ 4096 ∧ z.size ≤ 4096 ∧ d.size ≤ 4096 ∧ oN.size ≤ 4096 ∧ wr.size ≤ 4096
  · obtain ⟨h0, h1, h2, h3, h4, h5, h6, h7⟩ := h
    exact law_small pre mN fN g z d oN wr lb hlb0 hlb1 pr on zz w h0 h1 h2 h3 h4 h5 h6 h7
  · exact law_big pre mN fN g z d oN wr lb pr on zz w b0 b1 b2 b3 b4 b5 b6 b7 h
end Go.Proofs.YbulkcjfkDoor
