import Derived.Test.YbulkcjfkDoorU6
namespace Go.Proofs.YbulkcjfkDoor
open Go.RowKit Go.Deep
set_option linter.unusedVariables false
set_option linter.unusedSimpArgs false

theorem Pt.drew {w : World} {B b f k m q : Nat} {on : Option Nat} {lbl : Int} {pr : Bool} {mN fN g z d oN wr : ByteArray} {l : List UInt8} {w' : World} (h : Pt w B b f k m q on lbl pr mN fN g z d oN wr l w') : Pt w B b f k m q on lbl pr mN fN g z d oN wr l w'.drew :=
  ⟨h.buf, (have h := h.bel; ⟨h.1, h.2, h.3, h.4, h.5⟩), h.gt.kept (Lib.OthersKept.refl 5 (some b) w').drew, h.kept.drew⟩
theorem Gt.one {w : World} {b f k m q o : Nat} {lbl : Int} {pr : Bool} {mN fN g z d oN wr : ByteArray} (h : Gt w b f k m q (some o) lbl pr mN fN g z d oN wr) : w.cell? ⟨o, 1, none⟩ = some (.string oN) := by
  obtain ⟨⟨c, fz, h1, h2⟩, _⟩ := h.ho o rfl
  simp only [World.cell?, h1]; exact h2

/-- The condition's line. -/
def condT (fN oN wr : List UInt8) (on pr : Bool) : List UInt8 :=
  if on then [105, 102, 32, 120, 44, 32, 111, 107, 32, 58, 61, 32, 109, 46, 71, 101, 116] ++ oN ++ [40, 41, 46, 40, 42] ++ wr ++ [41, 59, 32, 111, 107, 32, 38, 38, 32, 120, 32, 33, 61, 32, 110, 105, 108, 32, 123] else if pr then [105, 102, 32, 109, 32, 33, 61, 32, 110, 105, 108, 32, 38, 38, 32, 109, 46] ++ fN ++ [32, 33, 61, 32, 110, 105, 108, 32, 123] else [105, 102, 32, 109, 32, 33, 61, 32, 110, 105, 108, 32, 123]
/-- The value's text. -/
def valT (fN : List UInt8) (on pr zn : Bool) : List UInt8 :=
  (if on then [120, 46] else if pr && !zn then [42, 109, 46] else [109, 46]) ++ fN
/-- The last return's line. -/
def retT (g z d : List UInt8) (rep dn zn : Bool) : List UInt8 :=
  if rep then [114, 101, 116, 117, 114, 110, 32, 110, 105, 108] else if dn && zn then [114, 101, 116, 117, 114, 110, 32, 97, 112, 112, 101, 110, 100, 40] ++ g ++ [40, 110, 105, 108, 41, 44, 32] ++ d ++ [46, 46, 46, 41] else if dn then [114, 101, 116, 117, 114, 110, 32] ++ d else [114, 101, 116, 117, 114, 110, 32] ++ z
theorem condT_len {fN oN wr : List UInt8} {on pr : Bool} (h1 : fN.length ≤ 4096) (h2 : oN.length ≤ 4096) (h3 : wr.length ≤ 4096) : (condT fN oN wr on pr).length ≤ 9000 := by
  unfold condT
  cases on <;> cases pr <;> simp <;> omega
theorem valT_len {fN : List UInt8} {on pr zn : Bool} (h1 : fN.length ≤ 4096) : (valT fN on pr zn).length ≤ 4100 := by
  unfold valT
  cases on <;> cases pr <;> cases zn <;> simp <;> omega
theorem retT_len {g z d : List UInt8} {rep dn zn : Bool} (h1 : g.length ≤ 4096) (h2 : z.length ≤ 4096) (h3 : d.length ≤ 4096) : (retT g z d rep dn zn).length ≤ 9000 := by
  unfold retT
  cases rep <;> cases dn <;> cases zn <;> simp <;> omega

set_option maxRecDepth 100000 in
set_option maxHeartbeats 8000000 in
theorem getter_any (w : World) (B b f k m q : Nat) (on : Option Nat) (lbl : Int) (pr rep zn dn : Bool) (mN fN g z d oN wr : ByteArray) (l : List UInt8) (hP : Pt w B b f k m q on lbl pr mN fN g z d oN wr l w) (hB : B ≤ w.heap.size) (hl : l.length ≤ 4096)
    (h1 : mN.size ≤ 4096) (h2 : fN.size ≤ 4096) (h3 : g.size ≤ 4096) (h4 : z.size ≤ 4096) (h5 : d.size ≤ 4096) (h6 : oN.size ≤ 4096) (h7 : wr.size ≤ 4096)
    (hlb : rep = true → lbl = 3) (hlb' : rep = false → ¬ lbl = 3) (hz : (z.toList == [110, 105, 108]) = zn) (hd0 : dn = false → d.toList = []) (hd1 : dn = true → ¬ d.toList = [] ∧ d.toList.isEmpty = false) :
    Calls Ybad.prog 9 #[.pointer (some ⟨b, 0, none⟩), .pointer (some ⟨m, 0, none⟩), .pointer (some ⟨f, 0, none⟩)] w fun e w' => e = .returned (.tuple #[]) ∧ Pt w B b f k m q on lbl pr mN fN g z d oN wr (l ++ getText mN.data.toList fN.data.toList g.data.toList z.data.toList d.data.toList oN.data.toList wr.data.toList rep pr on.isSome zn dn) w' := by
  obtain ⟨c0, c1, c2, c4, c5, c6, c10, k0, k1, k8, m2, q2⟩ := hP.gt.cells
  have HP := hidden hP
  have HLB := hidden hlb
  have HLB' := hidden hlb'
  have HZ := hidden hz
  have HD0 := hidden hd0
  have HD1 := hidden hd1
  clear hP hlb hlb' hz hd0 hd1
  have hms : mN.data.toList.length ≤ 4096 := by rw [← Lib.size_eq]; exact h1
  have hfs : fN.data.toList.length ≤ 4096 := by rw [← Lib.size_eq]; exact h2
  have hgs : g.data.toList.length ≤ 4096 := by rw [← Lib.size_eq]; exact h3
  have hzs : z.data.toList.length ≤ 4096 := by rw [← Lib.size_eq]; exact h4
  have hds : d.data.toList.length ≤ 4096 := by rw [← Lib.size_eq]; exact h5
  have hos : oN.data.toList.length ≤ 4096 := by rw [← Lib.size_eq]; exact h6
  have hws : wr.data.toList.length ≤ 4096 := by rw [← Lib.size_eq]; exact h7
  go_enter Ybad.func9, Ybad.ntmps9
  go_upto_if 21 with fail
  go_cut [6] (fun s6 wx => wx = w ∧ ∃ vt : ByteArray, s6 = .string vt ∧ vt.data.toList = (if rep then [91, 93] ++ g.data.toList else g.data.toList))
  case first =>
    cases rep
    · have hne := HLB'.out rfl
      have hnb : (lbl == 3) = false := by simpa using hne
      go_wp2_with fail
      go_meet
      exact ⟨rfl, g, rfl, rfl⟩
    · obtain rfl := HLB.out rfl
      have GT := hidden (goType_any f k q g w h3 c0 c1 q2 k8 k0)
      go_wp2_with (go_at_call 14; refine GT.out.mono ?_; rintro e w9 ⟨r, rfl, hw9, hr⟩; have hw8 := hw9.symm; subst hw8)
      go_meet
      exact ⟨rfl, r, rfl, hr⟩
  case rest =>
    obtain ⟨hwc, vt, rfl, hvt⟩ := hcut
    have hw9 := hwc.symm
    subst hw9
    have HVT := hidden hvt
    clear hwc hvt
    have L0 := hidden (line0 (fun _ => none) B b l w HP.out.buf hB (by omega))
    go_upto_region 4 with (go_at_call 13; refine L0.out.mono ?_; rintro e w1 ⟨rfl, b1, b2, b3⟩)
    have HP1 := hidden (show Pt w B b f k m q on lbl pr mN fN g z d oN wr (l ++ [10]) w1 from ⟨b1, b2, HP.out.gt.kept b3, b3⟩)
    clear b1 b2 b3 L0 c0 c1 c2 c4 c5 c6 c10 k0 k1 k8 m2 q2
    obtain ⟨c0, c1, c2, c4, c5, c6, c10, k0, k1, k8, m2, q2⟩ := HP1.out.gt.cells
    have HP1d := hidden HP1.out.drew
    have hvs : vt.data.toList.length ≤ 4098 := by
      rw [HVT.out]
      split
      · rw [List.length_append]; simp only [List.length_cons, List.length_nil]; omega
      · omega
    have L1 := hidden (HP1d.out.line hB [{ data := #[102, 117, 110, 99, 32, 40, 109, 32, 42] }, mN, { data := #[41, 32, 71, 101, 116] }, fN, { data := #[40, 41, 32] }, vt, { data := #[32, 123] }] 7 rfl (by omega) (by simp only [bytesOf, List.map_cons, List.map_nil, List.flatten_cons, List.flatten_nil, List.length_append, List.length_cons, List.length_nil]; omega))
    go_region_held3 (fun w' => w'.cell? ⟨m, 2, none⟩ = some (.string mN) ∧ w'.cell? ⟨f, 2, none⟩ = some (.string fN)) (go_keep) (first
      | (go_at_call 13; refine L1.out.mono ?_; rintro e w2 ⟨rfl, hP2⟩; have HP2 := hidden hP2; obtain ⟨_, _, n2, _, _, _, _, _, _, _, n11, _⟩ := hP2.gt.cells; clear hP2))
    obtain ⟨l2, hl2⟩ : ∃ l2, l ++ [10] ++ bytesOf [{ data := #[102, 117, 110, 99, 32, 40, 109, 32, 42] }, mN, { data := #[41, 32, 71, 101, 116] }, fN, { data := #[40, 41, 32] }, vt, { data := #[32, 123] }] ++ [10] = l2 := ⟨_, rfl⟩
    rw [hl2] at HP2
    have hn2 : l2.length ≤ 20000 := by
      rw [← hl2]
      simp only [bytesOf, List.map_cons, List.map_nil, List.flatten_cons, List.flatten_nil, List.length_append, List.length_cons, List.length_nil]; omega
    have HL2 := hidden hl2
    clear hl2 L1 HP1d HP1 c0 c1 c2 c4 c5 c6 c10 k0 k1 k8 m2 q2 n2 n11
    obtain ⟨c0, c1, c2, c4, c5, c6, c10, k0, k1, k8, m2, q2⟩ := HP2.out.gt.cells
    go_upto_block 0 with fail
    go_cut [] (fun wx => Pt w B b f k m q on lbl pr mN fN g z d oN wr (l2 ++ condT fN.data.toList oN.data.toList wr.data.toList on.isSome pr ++ [10]) wx)
    case first =>
      cases on with
      | some o =>
        have o1 := HP2.out.gt.one
        simp only [Option.map_some] at c5
        have U := hidden (unwrap_any f ({ data := #[109, 46, 71, 101, 116] } ++ oN ++ { data := #[40, 41] }) wr w2 (by
          rw [Lib.size_eq]
          simp only [ByteArray.data_append, Array.toList_append, List.length_append, List.length_cons, List.length_nil]; omega) h7 c6)
        go_wp2_with (first
          | (go_at_call 15; refine U.out.mono ?_; rintro e w9 ⟨r, rfl, hw9, hr⟩; have hw8 := hw9.symm; subst hw8; have HR := hidden hr; clear hr)
          | (go_at_call 13; refine (HP2.out.line hB [{ data := #[105, 102, 32] }, r, { data := #[32, 123] }] 3 rfl (by omega) (by
              have hr := HR.out
              simp only [bytesOf, List.map_cons, List.map_nil, List.flatten_cons, List.flatten_nil, List.length_append, List.length_cons, List.length_nil, hr, ByteArray.data_append, Array.toList_append]; omega)).mono ?_; rintro e w3 ⟨rfl, hP3⟩))
        go_meet
        have hr := HR.out
        simpa [condT, bytesOf, hr, ByteArray.data_append] using hP3
      | none =>
        simp only [Option.map_none] at c5
        cases pr
        · have L3 := hidden (HP2.out.line hB [{ data := #[105, 102, 32, 109, 32, 33, 61, 32, 110, 105, 108, 32, 123] }] 1 rfl (by omega) (by simp only [bytesOf, List.map_cons, List.map_nil, List.flatten_cons, List.flatten_nil, List.length_append, List.length_cons, List.length_nil]; omega))
          go_wp2_with (go_at_call 13; refine L3.out.mono ?_; rintro e w3 ⟨rfl, hP3⟩)
          go_meet
          simpa [condT, bytesOf] using hP3
        · have L3 := hidden (HP2.out.line hB [{ data := #[105, 102, 32, 109, 32, 33, 61, 32, 110, 105, 108, 32, 38, 38, 32, 109, 46] }, fN, { data := #[32, 33, 61, 32, 110, 105, 108, 32, 123] }] 3 rfl (by omega) (by simp only [bytesOf, List.map_cons, List.map_nil, List.flatten_cons, List.flatten_nil, List.length_append, List.length_cons, List.length_nil]; omega))
          go_wp2_with (go_at_call 13; refine L3.out.mono ?_; rintro e w3 ⟨rfl, hP3⟩)
          go_meet
          simpa [condT, bytesOf] using hP3
    case rest =>
      obtain ⟨l3, hl3⟩ : ∃ l3, l2 ++ condT fN.data.toList oN.data.toList wr.data.toList on.isSome pr ++ [10] = l3 := ⟨_, rfl⟩
      rw [hl3] at hcut
      have HP3 := hidden hcut
      have hn3 : l3.length ≤ 40000 := by
        rw [← hl3]
        have := condT_len (on := on.isSome) (pr := pr) hfs hos hws
        simp only [List.length_append, List.length_cons, List.length_nil]; omega
      have HL3 := hidden hl3
      clear hl3 hcut HP2 c0 c1 c2 c4 c5 c6 c10 k0 k1 k8 m2 q2
      obtain ⟨c0, c1, c2, c4, c5, c6, c10, k0, k1, k8, m2, q2⟩ := HP3.out.gt.cells
      have V := hidden (value_any f k z fN zn pr _ wc h2 c1 c2 c4 c5 k1 HZ.out)
      clear c0 c1 c2 c4 c5 c6 c10 k0 k1 k8 m2 q2
      go_upto_region 11 with (first
          | (go_at_call 16; refine V.out.mono ?_; rintro e w9 ⟨r, rfl, hw9, hr⟩; have hw8 := hw9.symm; subst hw8; have HR := hidden (show r.data.toList = valT fN.data.toList on.isSome pr zn by rw [hr, Option.isSome_map]; rfl); clear hr)
          | (go_at_call 13; refine (HP3.out.line hB [{ data := #[114, 101, 116, 117, 114, 110, 32] }, r] 2 rfl (by omega) (by
              have hr := HR.out
              have := valT_len (on := on.isSome) (pr := pr) (zn := zn) hfs
              simp only [bytesOf, List.map_cons, List.map_nil, List.flatten_cons, List.flatten_nil, List.length_append, List.length_cons, List.length_nil, hr]; omega)).mono ?_; rintro e w4 ⟨rfl, hP4⟩))
      obtain ⟨l4, hl4⟩ : ∃ l4, l3 ++ bytesOf [{ data := #[114, 101, 116, 117, 114, 110, 32] }, r] ++ [10] = l4 := ⟨_, rfl⟩
      rw [hl4] at hP4
      have HP4 := hidden hP4
      have hn4 : l4.length ≤ 50000 := by
        rw [← hl4]
        have hr := HR.out
        have := valT_len (on := on.isSome) (pr := pr) (zn := zn) hfs
        simp only [bytesOf, List.map_cons, List.map_nil, List.flatten_cons, List.flatten_nil, List.length_append, List.length_cons, List.length_nil, hr]; omega
      have HL4 := hidden hl4
      clear hl4 hP4 HP3 V
      have L5 := hidden (HP4.out.line hB [{ data := #[125] }] 1 rfl (by omega) (by simp only [bytesOf, List.map_cons, List.map_nil, List.flatten_cons, List.flatten_nil, List.length_append, List.length_cons, List.length_nil]; omega))
      go_upto_block 1 with (go_at_call 13; refine L5.out.mono ?_; rintro e w5 ⟨rfl, hP5⟩)
      obtain ⟨l5, hl5⟩ : ∃ l5, l4 ++ bytesOf [{ data := #[125] }] ++ [10] = l5 := ⟨_, rfl⟩
      rw [hl5] at hP5
      have HP5 := hidden hP5
      have hn5 : l5.length ≤ 60000 := by
        rw [← hl5]
        simp only [bytesOf, List.map_cons, List.map_nil, List.flatten_cons, List.flatten_nil, List.length_append, List.length_cons, List.length_nil]; omega
      have HL5 := hidden hl5
      clear hl5 hP5 HP4 L5
      obtain ⟨c0, c1, c2, c4, c5, c6, c10, k0, k1, k8, m2, q2⟩ := HP5.out.gt.cells
      go_cut [] (fun wx => Pt w B b f k m q on lbl pr mN fN g z d oN wr (l5 ++ retT g.data.toList z.data.toList d.data.toList rep dn zn ++ [10]) wx)
      case first =>
        cases rep
        · have hne := HLB'.out rfl
          have hnb : (lbl == 3) = false := by simpa using hne
          cases dn
          · have hE := HD0.out rfl
            have L6 := hidden (HP5.out.line hB [{ data := #[114, 101, 116, 117, 114, 110, 32] }, z] 2 rfl (by omega) (by simp only [bytesOf, List.map_cons, List.map_nil, List.flatten_cons, List.flatten_nil, List.length_append, List.length_cons, List.length_nil]; omega))
            go_wp2_with (go_at_call 13; refine L6.out.mono ?_; rintro e w6 ⟨rfl, hP6⟩)
            go_meet
            simpa [retT, bytesOf] using hP6
          · obtain ⟨hE, hI⟩ := HD1.out rfl
            have N := hidden (nilable_any k z zn w5 k1 HZ.out)
            cases zn
            · have L6 := hidden (HP5.out.line hB [{ data := #[114, 101, 116, 117, 114, 110, 32] }, d] 2 rfl (by omega) (by simp only [bytesOf, List.map_cons, List.map_nil, List.flatten_cons, List.flatten_nil, List.length_append, List.length_cons, List.length_nil]; omega))
              go_wp2_with (first | (go_at_call 17; refine N.out.mono ?_; rintro e w9 ⟨rfl, hw9⟩; have hw8 := hw9.symm; subst hw8) | (go_at_call 13; refine L6.out.mono ?_; rintro e w6 ⟨rfl, hP6⟩))
              go_meet
              simpa [retT, bytesOf] using hP6
            · have L6 := hidden (HP5.out.drew.line hB [{ data := #[114, 101, 116, 117, 114, 110, 32, 97, 112, 112, 101, 110, 100, 40] }, g, { data := #[40, 110, 105, 108, 41, 44, 32] }, d, { data := #[46, 46, 46, 41] }] 5 rfl (by omega) (by simp only [bytesOf, List.map_cons, List.map_nil, List.flatten_cons, List.flatten_nil, List.length_append, List.length_cons, List.length_nil]; omega))
              go_upto_region 16 with (go_at_call 17; refine N.out.mono ?_; rintro e w9 ⟨rfl, hw9⟩; have hw8 := hw9.symm; subst hw8)
              go_region_held3 (fun w' => w'.cell? ⟨f, 1, none⟩ = some (.pointer (some ⟨k, 0, none⟩)) ∧ w'.cell? ⟨f, 10, none⟩ = some (.string d) ∧ w'.cell? ⟨k, 0, none⟩ = some (.string g)) (go_keep) (first
                | (go_at_call 13; refine L6.out.mono ?_; rintro e w6 ⟨rfl, hP6⟩; have HP6 := hidden hP6; obtain ⟨_, n1, _, _, _, _, n10, n0, _, _, _, _⟩ := hP6.gt.cells; clear hP6))
              go_wp2_with fail
              go_meet
              have hP6 := HP6.out
              simpa [retT, bytesOf] using hP6
        · obtain rfl := HLB.out rfl
          have L6 := hidden (HP5.out.line hB [{ data := #[114, 101, 116, 117, 114, 110, 32, 110, 105, 108] }] 1 rfl (by omega) (by simp only [bytesOf, List.map_cons, List.map_nil, List.flatten_cons, List.flatten_nil, List.length_append, List.length_cons, List.length_nil]; omega))
          go_wp2_with (go_at_call 13; refine L6.out.mono ?_; rintro e w6 ⟨rfl, hP6⟩)
          go_meet
          simpa [retT, bytesOf] using hP6
      case rest =>
        have HP6 := hidden hcut
        clear hcut c0 c1 c2 c4 c5 c6 c10 k0 k1 k8 m2 q2
        have L7 := hidden (HP6.out.line hB [{ data := #[125] }] 1 rfl (by omega) (by
          have := retT_len (rep := rep) (dn := dn) (zn := zn) hgs hzs hds
          simp only [bytesOf, List.map_cons, List.map_nil, List.flatten_cons, List.flatten_nil, List.length_append, List.length_cons, List.length_nil]; omega))
        go_wp2_with (go_at_call 13; refine L7.out.mono ?_; rintro e w7 ⟨rfl, hP7⟩)
        go_end0
        refine ⟨rfl, ?_⟩
        have e2 := HL2.out
        have e3 := HL3.out
        have e4 := HL4.out
        have e5 := HL5.out
        have er := HR.out
        have ev := HVT.out
        rw [← e5, ← e4, ← e3, ← e2] at hP7
        simpa only [getText, condT, valT, retT, bytesOf, er, ev, List.map_cons, List.map_nil, List.flatten_cons, List.flatten_nil, List.append_assoc, List.append_nil] using hP7
end Go.Proofs.YbulkcjfkDoor
