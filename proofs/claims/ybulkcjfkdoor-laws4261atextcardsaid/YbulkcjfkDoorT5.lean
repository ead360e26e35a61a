import Derived.Test.YbulkcjfkDoorT4b
import Derived.Deep.RegionLaw
import Derived.Deep.CutBlock
import Derived.Laws.BytesString
import Derived.Laws.IdiomStrings
namespace Go.Proofs.YbulkcjfkDoor
open Go.RowKit Go.Deep
set_option linter.unusedVariables false
set_option linter.unusedSimpArgs false

theorem info26 : (Ybad.prog.info? 26).map (fun i => (i.zero, i.size, i.bytes)) = some (some (.pointer none), 1, 8) := by kernel_rfl
/-- The fields that came in: two cells each. -/
def FsIn (w : World) (fa : Option Addr) (n : Nat) (nm ty : Nat → ByteArray) : Prop := n = 0 ∨ ∃ b o, fa = some ⟨b, o, none⟩ ∧ b < w.heap.size ∧ ∀ i, i < n → w.cell? ⟨b, o + i * 2, none⟩ = some (.string (nm i)) ∧ w.cell? ⟨b, o + i * 2 + 1, none⟩ = some (.string (ty i))

def kindO (t : ByteArray) : Obj := .cells #[.string t, .string { data := #[] }, .string { data := #[] }, .string { data := #[] }, .bool false, .bool false, .nilFunc, .string { data := #[] }, .pointer none] 31
def fieldO (k : Nat) (n : ByteArray) : Obj := .cells #[.pointer none, .pointer (some ⟨k, 0, none⟩), .string n, .string { data := #[] }, .bool false, .pointer none, .string { data := #[] }, .bool false, .bool false, .bool false, .string { data := #[] }, .string { data := #[] }, .bool false] 35
theorem make0 (n : Nat) (hn : n ≤ 1024) (w : World) : (Instr.makeSlice 25 (.int .i64 0) (.int .i64 n)).run Ybad.prog w = .ok (.slice (some ⟨w.heap.size, 0, none⟩) 0 n) (w.alloc (.cells (madeCells #[.pointer none] n) 26)) := by
  obtain ⟨i0, hi, hz0, hz1, hz2⟩ := info_parts info26
  have h := run_make (P := Ybad.prog) w 25 26 i0 (.pointer none) Ybad.underlying25 hi hz0 .i64 .i64 0 n (by omega) (by omega) (by rw [hz2]; omega) (by omega)
  rw [hz1, Nat.mul_one, Int.toNat_natCast] at h
  exact h

theorem conv_back {B : Nat} {w : World} {v : Value} {l : List UInt8} (h : OwnM B w v l) : (convert 37 9 v).run Ybad.prog w = .ok (.string ⟨l.toArray⟩) w := by
  obtain ⟨g, cap, cur, fz, rfl, hBg, hg, hfz, hlc, hsz, htk⟩ := h
  rw [run_convert_bytes_string w 37 9 5 _ _ _ Ybad.underlying37 Ybad.underlying5 Ybad.underlying9]
  have hl : (loadCells ⟨g, 0, none⟩ l.length).run Ybad.prog w = .ok ((l.map fun b => (b.toNat : Int)).map (Value.int .u8)).toArray w := by
    have := run_loadCells_list (P := Ybad.prog) w ⟨g, 0, none⟩ (Lib.byteCells l) (OwnM.cells (B := B) (cap := cap) hg htk)
    rw [Lib.byteCells_length] at this
    rw [this]
    simp [Lib.byteCells]
  rw [run_bytesToString w ⟨g, 0, none⟩ l.length cap _ hl, foldl_push_byteCells]
  simp [ByteArray.empty, ByteArray.emptyWithCapacity]
  rfl
set_option maxRecDepth 100000 in
set_option maxHeartbeats 8000000 in
theorem law_any (pre : ByteArray) (fa : Option Addr) (n cap : Nat) (nm ty : Nat → ByteArray) (w : World) (hF : FsIn w fa n nm ty) (hn63 : n ≤ 9223372036854775807) (hp63 : pre.size ≤ 9223372036854775807) (hs63 : ∀ i, i < n → (nm i).size ≤ 9223372036854775807 ∧ (ty i).size ≤ 9223372036854775807) :
    Calls Ybad.prog 3 #[.string pre, .slice fa n cap] w fun e w' => e = .returned (.bool true) ∧ Below w.heap.size w w' := by
  by_cases h1 : n ≤ 1024
  · have h1z : ¬ (1024 : Int) < n := by omega
    by_cases h2 : pre.size ≤ 65536
    · have h2z : ¬ (65536 : Int) < pre.size := by omega
      have HF := hidden hF
      have HS := hidden hs63
      clear hF hs63
      go_enter Ybad.func3, Ybad.ntmps3
      go_wp2_with fail
      go_loopg [22] n (fun g iv wr => ∃ i : Nat, g + i = n ∧ iv = .int .i64 i ∧ wr = w ∧ ∀ j, j < i → (nm j).size ≤ 4096 ∧ (ty j).size ≤ 4096)
      case atStart => exact ⟨0, by omega, rfl, rfl, fun j hj => absurd hj (by omega)⟩
      case round =>
        obtain ⟨i, hgi, rfl, hwr, hsz⟩ := hrel
        have hw9 := hwr.symm
        subst hw9
        have HZ := hidden hsz
        clear hsz hwr
        by_cases hi : i < n
        · have hiz : (i : Int) < n := by omega
          rcases HF.out with h0 | ⟨b, o, rfl, hb, hc⟩
          · omega
          · obtain ⟨c1, c2⟩ := hc i hi
            obtain ⟨z1, z2⟩ := HS.out i hi
            clear hc
            by_cases s1 : (nm i).size ≤ 4096
            · have s1z : ¬ (4096 : Int) < (nm i).size := by omega
              by_cases s2 : (ty i).size ≤ 4096
              · have s2z : ¬ (4096 : Int) < (ty i).size := by omega
                go_wp2_with fail
                go_roundg (n - (i + 1))
                case measure => omega
                case rel =>
                  refine ⟨i + 1, by omega, by go_num, rfl, fun j hj => ?_⟩
                  by_cases e : j = i
                  · subst e; exact ⟨s1, s2⟩
                  · exact HZ.out j (by omega)
              · have s2z : (4096 : Int) < (ty i).size := by omega
                go_wp2_with fail
                go_ret
                exact ⟨rfl, Below.refl _ _⟩
            · have s1z : (4096 : Int) < (nm i).size := by omega
              go_wp2_with fail
              go_ret
              exact ⟨rfl, Below.refl _ _⟩
        · obtain rfl : i = n := by omega
          have hiz : ¬ (i : Int) < i := by omega
          have hmk := make0 i h1 w
          have hr0 : (w.alloc (.cells (madeCells #[.pointer none] i) 26)).rowIs w.heap.size 26 i (fun _ => .pointer none) := World.rowIs_made w (.pointer none) i 26
          have HR0 := hidden hr0
          have HB0 : Hid (Below w.heap.size w (w.alloc (.cells (madeCells #[.pointer none] i) 26))) := hidden ((Below.refl _ _).alloc (Nat.le_refl _) _)
          have HSZ : Hid ((w.alloc (.cells (madeCells #[.pointer none] i) 26)).heap.size = w.heap.size + 1) := hidden (nblk_alloc _ _)
          clear hr0
          go_wp2_with fail
          generalize w.alloc (.cells (madeCells #[.pointer none] i) 26) = w2 at *
          clear hmk
          obtain ⟨F, hFe⟩ : ∃ F, w.heap.size = F := ⟨_, rfl⟩
          rw [hFe] at HR0 HSZ ⊢
          go_loopg [6, 47] i (fun g sv iv wx => ∃ j : Nat, g + j = i ∧ iv = .int .i64 j ∧ sv = .slice (some ⟨F, 0, none⟩) j i ∧ Below F w wx ∧ wx.heap.size = F + 1 + 3 * j ∧ wx.rowIs F 26 i (fun m => if m < j then .pointer (some ⟨F + 1 + 3 * m + 1, 0, none⟩) else .pointer none) ∧
            ∀ m, m < j → (∃ c, wx.heap[F + 1 + 3 * m]? = some (.cells c 31) ∧ c[0]? = some (.string (ty m))) ∧ (∃ c, wx.heap[F + 1 + 3 * m + 1]? = some (.cells c 35) ∧ c[1]? = some (.pointer (some ⟨F + 1 + 3 * m, 0, none⟩)) ∧ c[2]? = some (.string (nm m))))
          case atStart => exact ⟨0, by omega, rfl, rfl, hFe ▸ HB0.out, HSZ.out, HR0.out.congr fun m _ => by rw [if_neg (by omega)], fun m hm => absurd hm (by omega)⟩
          case round =>
            obtain ⟨j, hgj, rfl, rfl, hBl, hsz, hrow, hbl⟩ := hrel
            have HBl := hidden hBl
            have HSz := hidden hsz
            have HRow := hidden hrow
            have HBk := hidden hbl
            clear hBl hsz hrow hbl
            by_cases hj : j < i
            ·
              have hjz : (j : Int) < i := by omega
              rcases HF.out with h0 | ⟨b, o, rfl, hb, hc⟩
              · omega
              · obtain ⟨c1, c2⟩ := hc j hj
                have e1 := (HBl.out.cell (p := ⟨b, o + j * 2, none⟩) (by rw [hFe] at hb; exact hb)).trans c1
                have e2 := (HBl.out.cell (p := ⟨b, o + j * 2 + 1, none⟩) (by rw [hFe] at hb; exact hb)).trans c2
                have cr := HRow.out.cell hj
                have fr := HRow.out.frozen j
                obtain ⟨T, hT⟩ : ∃ T, wr.heap.size = T := ⟨_, rfl⟩
                have HTe := hidden (hT.symm.trans HSz.out)
                have hFT : F < T := by have := HTe.out; omega
                have hbT : b < T := by have := HTe.out; rw [hFe] at hb; omega
                clear c1 c2 hc
                obtain ⟨i0, hi0, hz0, hz1, hz2⟩ := info_parts info26
                have HC : Hid (∀ k u, ([Value.pointer (some ⟨T + 1, 0, none⟩)] : List Value)[k]? = some u → ((((wr.alloc (kindO (ty j))).alloc (fieldO T (nm j))).alloc (.cells #[.pointer (some ⟨T + 1, 0, none⟩)] 26)).drew).cell? ((⟨T + 2, 0, none⟩ : Addr).add k) = some u) := hidden (by
                  have := one_new ((wr.alloc (kindO (ty j))).alloc (fieldO T (nm j))) (.pointer (some ⟨T + 1, 0, none⟩)) 26
                  rw [nblk_alloc, nblk_alloc, hT] at this
                  exact this)
                have HW : Hid ((((wr.alloc (kindO (ty j))).alloc (fieldO T (nm j))).alloc (.cells #[.pointer (some ⟨T + 1, 0, none⟩)] 26)).drew.rowIs F 26 i (fun m => if m < j then .pointer (some ⟨F + 1 + 3 * m + 1, 0, none⟩) else .pointer none)) := hidden (((HRow.out.alloc _).alloc _).alloc _).drew
                have HSP : Hid (∀ k, k < ([Value.pointer (some ⟨T + 1, 0, none⟩)] : List Value).length → (((((wr.alloc (kindO (ty j))).alloc (fieldO T (nm j))).alloc (.cells #[.pointer (some ⟨T + 1, 0, none⟩)] 26)).drew).cell? ⟨F, 0 + j * 1 + k, none⟩).isSome = true ∧ ((((wr.alloc (kindO (ty j))).alloc (fieldO T (nm j))).alloc (.cells #[.pointer (some ⟨T + 1, 0, none⟩)] 26)).drew).frozen? ⟨F, 0 + j * 1 + k, none⟩ = false) := hidden (fun k hk => by
                  have hk0 : k = 0 := by simpa using hk
                  subst hk0
                  rw [show 0 + j * 1 + 0 = j by omega]
                  exact ⟨by rw [HW.out.cell hj]; rfl, HW.out.frozen j⟩)
                go_upto_block 3 with fail
                go_cut [6] (fun s6 wx => s6 = .slice (some ⟨F, 0, none⟩) (j + 1) i ∧ wx = ((((wr.alloc (kindO (ty j))).alloc (fieldO T (nm j))).alloc (.cells #[.pointer (some ⟨T + 1, 0, none⟩)] 26)).drew).setCell ⟨F, j, none⟩ (.pointer (some ⟨T + 1, 0, none⟩)))
                case first =>
                  go_upto_region 13 with fail
                  go_region_law (refine step_append_room rfl _ _ 25 rfl 26 i0 1 Ybad.underlying25 hi0 hz1 F 0 j i rfl ⟨T + 2, 0, none⟩ 1 1 [.pointer (some ⟨T + 1, 0, none⟩)] rfl rfl HC.out (by simp [Value.oneCell']) hj HSP.out ?_)
                  all_goals (go_wp2_with fail; go_meet)
                  all_goals exact ⟨rfl, rfl⟩
                case rest =>
                  obtain ⟨rfl, hwx⟩ := hcut
                  have hTe := HTe.out
                  have hN : Below F w wc := by
                    rw [hwx]
                    have h3 := ((HBl.out.alloc (by omega) (kindO (ty j))).alloc (by rw [nblk_alloc]; omega) (fieldO T (nm j))).alloc (by rw [nblk_alloc, nblk_alloc]; omega) (.cells #[.pointer (some ⟨T + 1, 0, none⟩)] 26)
                    exact Below.setCell (w := (((wr.alloc (kindO (ty j))).alloc (fieldO T (nm j))).alloc (.cells #[.pointer (some ⟨T + 1, 0, none⟩)] 26)).drew) ⟨h3.1, h3.2, h3.3, h3.4, h3.5⟩ (Nat.le_refl _) _
                  have hsz : wc.heap.size = F + 1 + 3 * (j + 1) := by
                    rw [hwx, nblk_setCell]
                    show (((wr.alloc (kindO (ty j))).alloc (fieldO T (nm j))).alloc (.cells #[.pointer (some ⟨T + 1, 0, none⟩)] 26)).heap.size = _
                    rw [nblk_alloc, nblk_alloc, nblk_alloc, hT]
                    omega
                  have hrow : wc.rowIs F 26 i (fun m => if m < j + 1 then .pointer (some ⟨F + 1 + 3 * m + 1, 0, none⟩) else .pointer none) := by
                    rw [hwx]
                    refine (HW.out.set j _).congr fun m hm => ?_
                    by_cases e : m = j
                    · subst e
                      rw [if_pos rfl, if_pos (by omega), hTe]
                    · rw [if_neg e]
                      by_cases e2 : m < j
                      · rw [if_pos e2, if_pos (by omega)]
                      · rw [if_neg e2, if_neg (by omega)]
                  have hold : ∀ k, k < T → k ≠ F → wc.heap[k]? = wr.heap[k]? := fun k hk hkF => by
                    rw [hwx, blk_setCell_other _ _ _ _ hkF]
                    show (((wr.alloc (kindO (ty j))).alloc (fieldO T (nm j))).alloc (.cells #[.pointer (some ⟨T + 1, 0, none⟩)] 26)).heap[k]? = _
                    rw [blk_alloc_lt _ _ _ (by rw [nblk_alloc, nblk_alloc]; omega), blk_alloc_lt _ _ _ (by rw [nblk_alloc]; omega), blk_alloc_lt _ _ _ (by omega)]
                  have hkd : wc.heap[T]? = some (kindO (ty j)) := by
                    rw [hwx, blk_setCell_other _ _ _ _ (by show T ≠ F; omega)]
                    show (((wr.alloc (kindO (ty j))).alloc (fieldO T (nm j))).alloc (.cells #[.pointer (some ⟨T + 1, 0, none⟩)] 26)).heap[T]? = _
                    rw [blk_alloc_lt _ _ _ (by rw [nblk_alloc, nblk_alloc]; omega), blk_alloc_lt _ _ _ (by rw [nblk_alloc]; omega), ← hT]
                    exact blk_alloc_new _ _
                  have hfd : wc.heap[T + 1]? = some (fieldO T (nm j)) := by
                    rw [hwx, blk_setCell_other _ _ _ _ (by show T + 1 ≠ F; omega)]
                    show (((wr.alloc (kindO (ty j))).alloc (fieldO T (nm j))).alloc (.cells #[.pointer (some ⟨T + 1, 0, none⟩)] 26)).heap[T + 1]? = _
                    rw [blk_alloc_lt _ _ _ (by rw [nblk_alloc, nblk_alloc]; omega)]
                    have := blk_alloc_new (wr.alloc (kindO (ty j))) (fieldO T (nm j))
                    rwa [nblk_alloc, hT] at this
                  have HA := hidden (show Below F w wc ∧ wc.heap.size = F + 1 + 3 * (j + 1) ∧ wc.rowIs F 26 i (fun m => if m < j + 1 then .pointer (some ⟨F + 1 + 3 * m + 1, 0, none⟩) else .pointer none) ∧ ∀ m, m < j + 1 → (∃ c, wc.heap[F + 1 + 3 * m]? = some (.cells c 31) ∧ c[0]? = some (.string (ty m))) ∧ (∃ c, wc.heap[F + 1 + 3 * m + 1]? = some (.cells c 35) ∧ c[1]? = some (.pointer (some ⟨F + 1 + 3 * m, 0, none⟩)) ∧ c[2]? = some (.string (nm m))) from ⟨hN, hsz, hrow, fun m hm => by
                    by_cases e : m = j
                    · subst e
                      rw [← hTe]
                      exact ⟨⟨_, hkd, rfl⟩, ⟨_, hfd, rfl, rfl⟩⟩
                    · obtain ⟨⟨c, q1, q2⟩, ⟨d, q3, q4, q5⟩⟩ := HBk.out m (by omega)
                      exact ⟨⟨c, (hold _ (by omega) (by omega)).trans q1, q2⟩, ⟨d, (hold _ (by omega) (by omega)).trans q3, q4, q5⟩⟩⟩)
                  clear hwx hTe hN hsz hrow hold hkd hfd HC HW HSP e1 e2 cr fr
                  go_wp2_with fail
                  go_roundg (i - (j + 1))
                  case measure => omega
                  case rel => exact ⟨j + 1, by omega, by go_num, rfl, HA.out.1, HA.out.2.1, HA.out.2.2.1, HA.out.2.2.2⟩
            · obtain rfl : j = i := by omega
              have hjz : ¬ (j : Int) < j := by omega
              obtain ⟨b, hb⟩ : ∃ b, wr.heap.size = b := ⟨_, rfl⟩
              have HSb := hidden (hb.symm.trans HSz.out)
              have hF0 : Flds (wr.alloc (.cells #[.slice none 0 0, .int .i64 0, .int .i8 0] 43)) b F j (fun m => F + 1 + 3 * m + 1) (fun m => F + 1 + 3 * m) nm ty := by
                have hbe := HSb.out
                refine ⟨?_, by simp only [ne_eq, Option.some.injEq]; omega, fun m hm => ?_, fun m hm => by simp only [ne_eq, Option.some.injEq]; omega, fun m hm => ?_, fun m hm => by simp only [ne_eq, Option.some.injEq]; omega⟩
                · obtain ⟨c, h1, h2, h3⟩ := HRow.out.alloc (.cells #[.slice none 0 0, .int .i64 0, .int .i8 0] 43)
                  refine ⟨c, (0, 0), h1, fun m hm => ?_⟩
                  rw [h3 m hm]
                  simp only [if_pos hm]
                · obtain ⟨_, ⟨c, q1, q2, q3⟩⟩ := HBk.out m hm
                  exact ⟨c, (0, 0), (blk_alloc_lt _ _ _ (Array.getElem?_eq_some_iff.1 q1).1).trans q1, q2, q3⟩
                · obtain ⟨⟨c, q1, q2⟩, _⟩ := HBk.out m hm
                  exact ⟨c, (0, 0), (blk_alloc_lt _ _ _ (Array.getElem?_eq_some_iff.1 q1).1).trans q1, q2⟩
              have hI0 : LibA.IsBuffer 43 (fun _ => none) 5 b b 0 [] (wr.alloc (.cells #[.slice none 0 0, .int .i64 0, .int .i8 0] 43)) := LibA.zero_isBuffer (Nat.le_refl _) (LibA.three_whole (hb ▸ blk_alloc_new _ _))
              have hps : pre.data.toList.length = pre.size := by rw [Lib.size_eq]
              have WS := hidden (Ybad.writeString 43 (fun _ => none) b b 0 [] pre _ hI0 (by rw [nblk_alloc]; omega) (by simp) (by simp; omega))
              have HF0 := hidden hF0
              have hsl : ∀ m, m < j → (nm m).data.toList.length ≤ 4096 ∧ (ty m).data.toList.length ≤ 4096 := fun m hm => by
                have := HZ.out m hm
                rw [Lib.size_eq, Lib.size_eq] at this
                exact this
              have HSL := hidden hsl
              clear hF0 hI0 hsl
              go_upto_region 17 with (go_at_call 5; refine WS.out.mono ?_; rintro e w5 ⟨rfl, hI5, hB5, hK5⟩)
              rw [List.nil_append] at hI5
              have hbF : F ≤ b := by have := HSb.out; omega
              have hB5' : Below F w w5 := (HBl.out.alloc (by omega) _).trans (hB5.mono hbF)
              have HB5 := hidden hB5'
              have GE := hidden (gen_any (fun _ => none) b b F j j (fun m => F + 1 + 3 * m + 1) (fun m => F + 1 + 3 * m) nm ty pre.data.toList w5 hI5 (by have := hB5.size; rw [nblk_alloc] at this; omega) (HF0.out.kept hK5) h1 (by rw [hps]; exact h2) HSL.out)
              have HK5 := hidden hK5
              clear hI5 hB5 hK5 hB5' WS
              go_upto_region 18 with (go_at_call 6; refine GE.out.mono ?_; rintro e w6 ⟨rfl, hI6, hB6, hK6⟩)
              have hB6' : Below F w w6 := HB5.out.trans (hB6.mono hbF)
              have HB6 := hidden hB6'
              have HI6 := hidden hI6
              have HFl := hidden (HF0.out.kept (HK5.out.trans hK6))
              clear hI6 hB6 hK6 hB6' GE HB5 HK5 HF0
              have hcv := Lib.run_convert_string_bytes (P := Ybad.prog) w6 9 37 5 pre Ybad.underlying9 Ybad.underlying37 Ybad.underlying5
              have hO0 := OwnM.conv w6 pre
              go_upto_region 19 with fail
              have hB7 : Below w6.heap.size w6 (Lib.bytesWorld w6 5 pre) := ⟨rfl, rfl, rfl, by rw [Lib.bytesWorld_size]; omega, fun k hk => Lib.bytesWorld_at_old w6 5 pre k hk⟩
              have HB7 := hidden hB7
              have HO0 := hidden hO0
              obtain ⟨B2, hB2⟩ : ∃ B2, w6.heap.size = B2 := ⟨_, rfl⟩
              rw [hB2] at HB7 HO0 ⊢
              generalize Lib.bytesWorld w6 5 pre = w7 at *
              obtain ⟨c0, hc0⟩ : ∃ c0, grownCap w6 pre.size 0 5 = c0 := ⟨_, rfl⟩
              rw [hc0] at HO0 ⊢
              clear hcv hO0 hB7 hc0
              have h7B : B2 ≤ w7.heap.size := by have := HB7.out.size; omega
              have A1 := hidden (appendline_m B2 _ _ t1 w7 HO0.out (by rw [hps, size1]; omega) h7B)
              go_upto_region 20 with (go_at_call 7; refine A1.out.mono ?_; rintro e w8 ⟨v8, rfl, hO8, hB8⟩)
              have HB8 := hidden (HB7.out.trans hB8)
              have A2 := hidden (appendline_m B2 _ _ t2 w8 hO8 (by simp only [List.length_append, List.length_cons, List.length_nil, hps, size1, size2]; omega) (Nat.le_trans h7B hB8.size))
              clear hO8 hB8 A1 HB7
              go_upto_region 21 with (go_at_call 7; refine A2.out.mono ?_; rintro e w9 ⟨v9, rfl, hO9, hB9⟩)
              have HB9 := hidden (HB8.out.trans hB9)
              have h9B : B2 ≤ w9.heap.size := by have := (HB8.out.trans hB9).size; omega
              have A3 := hidden (appendline_m B2 _ _ t3 w9 hO9 (by simp only [List.length_append, List.length_cons, List.length_nil, hps, size1, size2, size3]; omega) h9B)
              clear hO9 hB9 A2 HB8
              go_upto_region 22 with (go_at_call 7; refine A3.out.mono ?_; rintro e w10 ⟨v10, rfl, hO10, hB10⟩)
              have HB10 := hidden (HB9.out.trans hB10)
              have hO10' : OwnM B2 w10 v10 (pre.data.toList ++ headOf ++ rowsOf nm ty 0) := by
                have e : pre.data.toList ++ headOf ++ rowsOf nm ty 0 = pre.data.toList ++ t1.data.toList ++ [10] ++ t2.data.toList ++ [10] ++ t3.data.toList ++ [10] := by simp only [headOf, rowsOf, List.append_assoc, List.append_nil]
                rw [e]; exact hO10
              have HO10 := hidden hO10'
              clear hO10 hB10 A3 HB9 hO10'
              have hhead : headOf.length = 121 := by decide
              go_wp2_with fail
              go_loopg [9, 88] j (fun g sv iv wx => ∃ m : Nat, g + m = j ∧ iv = .int .i64 m ∧ OwnM B2 wx sv (pre.data.toList ++ headOf ++ rowsOf nm ty m) ∧ Below B2 w6 wx)
              case atStart => exact ⟨0, by omega, rfl, HO10.out, HB10.out⟩
              case round =>
                obtain ⟨m, hgm, rfl, hOm, hBm⟩ := hrel
                have HOm := hidden hOm
                have HBm := hidden hBm
                clear hOm hBm HO10 HB10
                by_cases hm : m < j
                · have hmz : (m : Int) < j := by omega
                  have hFB : F ≤ B2 := by have := HB6.out.size; omega
                  have hBw := HB6.out.trans (HBm.out.mono hFB)
                  rcases HF.out with h0 | ⟨q, o, rfl, hq, hc⟩
                  · omega
                  · obtain ⟨c1, c2⟩ := hc m hm
                    have e1 := (hBw.cell (p := ⟨q, o + m * 2, none⟩) (by rw [hFe] at hq; exact hq)).trans c1
                    have hle := rowsOf_le nm ty m (fun k hk => HSL.out k (by omega))
                    obtain ⟨s1, s2⟩ := HSL.out m hm
                    have HC2 := hidden c2
                    have hmB : B2 ≤ wr.heap.size := by have := HBm.out.size; omega
                    have hl0 : (pre.data.toList ++ headOf ++ rowsOf nm ty m).length ≤ 9000000 := by simp only [List.length_append, hps, hhead]; omega
                    clear c1 c2 hc hBw
                    go_upto_region 26 with (at_builtin; refine append_ms rfl _ _ rfl (nm m) rfl rfl HOm.out (by omega) hmB ?_; intro v1 w1 ho1 hb1)
                    have h1B : B2 ≤ w1.heap.size := Nat.le_trans hmB hb1.size
                    have HW1 := hidden (HBm.out.trans hb1)
                    have HO1 := hidden ho1
                    clear ho1 hb1 e1
                    go_upto_region 27 with (at_builtin; refine append_mc rfl _ _ rfl 32 32 rfl rfl rfl HO1.out (by rw [List.length_append]; omega) h1B ?_; intro v2 w2 ho2 hb2)
                    have h2B : B2 ≤ w2.heap.size := Nat.le_trans h1B hb2.size
                    have HW2 := hidden (HW1.out.trans hb2)
                    have HO2 := hidden ho2
                    have e2 := ((HB6.out.trans ((HW1.out.trans hb2).mono hFB)).cell (p := ⟨q, o + m * 2 + 1, none⟩) (by rw [hFe] at hq; exact hq)).trans HC2.out
                    clear ho2 hb2 HO1 HW1
                    go_upto_region 28 with (at_builtin; refine append_ms rfl _ _ rfl (ty m) rfl rfl HO2.out (by simp only [List.length_append, List.length_cons, List.length_nil] at hl0 ⊢; omega) h2B ?_; intro v3 w3 ho3 hb3)
                    have h3B : B2 ≤ w3.heap.size := Nat.le_trans h2B hb3.size
                    have HW3 := hidden (HW2.out.trans hb3)
                    have HO3 := hidden ho3
                    clear ho3 hb3 HO2 HW2 e2
                    go_wp2_with (at_builtin; refine append_mc rfl _ _ rfl 10 10 rfl rfl rfl HO3.out (by simp only [List.length_append, List.length_cons, List.length_nil] at hl0 ⊢; omega) h3B ?_; intro v4 w4 ho4 hb4)
                    go_roundg (j - (m + 1))
                    case measure => omega
                    case rel =>
                      refine ⟨m + 1, by omega, by go_num, ?_, HW3.out.trans hb4⟩
                      have e : pre.data.toList ++ headOf ++ rowsOf nm ty (m + 1) = pre.data.toList ++ headOf ++ rowsOf nm ty m ++ (nm m).data.toList ++ [32] ++ (ty m).data.toList ++ [10] := by
                        have hsp : sp.data.toList = [32] := rfl
                        simp only [rowsOf, hsp, List.append_assoc]
                      rw [e]
                      exact ho4
                · obtain rfl : m = j := by omega
                  have hmz : ¬ (m : Int) < m := by omega
                  have hle := rowsOf_le nm ty m HSL.out
                  have hl0 : (pre.data.toList ++ headOf ++ rowsOf nm ty m).length ≤ 9000000 := by simp only [List.length_append, hps, hhead]; omega
                  have hmB : B2 ≤ wr.heap.size := by have := HBm.out.size; omega
                  have A4 := hidden (appendline_m B2 _ _ t4 wr HOm.out (by rw [size4]; omega) hmB)
                  go_upto_region 31 with (go_at_call 7; refine A4.out.mono ?_; rintro e w11 ⟨v11, rfl, hO11, hB11⟩)
                  have HW11 := hidden (HBm.out.trans hB11)
                  have A5 := hidden (appendline_m B2 _ _ t5 w11 hO11 (by simp only [List.length_append, List.length_cons, List.length_nil, size4, size5] at hl0 ⊢; omega) (Nat.le_trans hmB hB11.size))
                  clear hO11 hB11 A4
                  go_upto_region 32 with (go_at_call 7; refine A5.out.mono ?_; rintro e w12 ⟨v12, rfl, hO12, hB12⟩)
                  have hO12' : OwnM B2 w12 v12 (pre.data.toList ++ headOf ++ rowsOf nm ty m ++ tailOf) := by
                    have e : pre.data.toList ++ headOf ++ rowsOf nm ty m ++ tailOf = pre.data.toList ++ headOf ++ rowsOf nm ty m ++ t4.data.toList ++ [10] ++ t5.data.toList ++ [10] := by simp only [tailOf, List.append_assoc]
                    rw [e]; exact hO12
                  have HO12 := hidden hO12'
                  have HW12 := hidden (HW11.out.trans hB12)
                  clear hO12 hB12 A5 hO12' HW11
                  have hI12 : LibA.IsBuffer 43 (fun _ => none) 5 b b 0 (Lib.byteCells (pre.data.toList ++ headOf ++ rowsOf nm ty m ++ tailOf)) w12 := HI6.out.old (hB2 ▸ HW12.out)
                  obtain ⟨L, hLe⟩ : ∃ L, pre.data.toList ++ headOf ++ rowsOf nm ty m ++ tailOf = L := ⟨_, rfl⟩
                  rw [hLe] at hI12 HO12
                  have hcv : ∀ q, (convert 37 9 v12).run Ybad.prog (w12.drewN q) = .ok (.string ⟨L.toArray⟩) (w12.drewN q) := fun q => conv_back (B := B2) (w := w12.drewN q) HO12.out
                  have BS := fun q => hidden (Ybad.bufString 43 (fun _ => none) b b 0 L (w12.drewN q) hI12)
                  clear hI12 hLe
                  go_quiet (first
                    | (go_at_call 8; exact Calls.quiet_of (BS _).out))
                  go_wp2_with fail
                  clear hcv BS
                  go_loopg [125] m (fun g iv wx => ∃ k : Nat, g + k = m ∧ iv = .int .i64 k ∧ ∃ q, wx = w12.drewN q)
                  case atStart => exact ⟨0, by omega, rfl, _, rfl⟩
                  case round =>
                    obtain ⟨k, hgk, rfl, q, rfl⟩ := hrel
                    have hFB : F ≤ B2 := by have := HB6.out.size; omega
                    by_cases hk : k < m
                    · have hkz : (k : Int) < m := by omega
                      rcases HF.out with h0 | ⟨qb, o, rfl, hq, hc⟩
                      · omega
                      · obtain ⟨c1, c2⟩ := hc k hk
                        have hBw := HB6.out.trans (HW12.out.mono hFB)
                        have e1 : (w12.drewN q).cell? ⟨qb, o + k * 2, none⟩ = some (.string (nm k)) := (hBw.cell (p := ⟨qb, o + k * 2, none⟩) (by rw [hFe] at hq; exact hq)).trans c1
                        have e2 : (w12.drewN q).cell? ⟨qb, o + k * 2 + 1, none⟩ = some (.string (ty k)) := (hBw.cell (p := ⟨qb, o + k * 2 + 1, none⟩) (by rw [hFe] at hq; exact hq)).trans c2
                        have hlt : ∀ p : Addr, ∀ v, w6.cell? p = some v → (w12.drewN q).cell? p = some v := fun p v hp => by
                          have hpl : p.block < w6.heap.size := by
                            apply Classical.byContradiction
                            intro hn
                            have : w6.heap[p.block]? = none := Array.getElem?_eq_none (by omega)
                            simp [World.cell?, this] at hp
                          exact (HW12.out.cell (p := p) (by omega)).trans hp
                        have f0 := hlt _ _ (HFl.out.cell0 hk)
                        have f1 := hlt _ _ (HFl.out.cell1 hk)
                        have f2 := hlt _ _ (HFl.out.cell2 hk)
                        have f3 := hlt _ _ (HFl.out.cell3 hk)
                        clear hlt c1 c2 hc hBw
                        generalize hwq : w12.drewN q = wq at *
                        have HWQ := hidden hwq
                        clear hwq
                        go_upto_region 37 with fail
                        go_quiet (fail)
                        go_wp2_with fail
                        go_roundg (m - (k + 1))
                        case measure => omega
                        case rel => exact ⟨k + 1, by omega, by go_num, q + nq, by rw [← HWQ.out, World.drewN_drewN]⟩
                    · obtain rfl : k = m := by omega
                      have hkz : ¬ (k : Int) < k := by omega
                      go_wp2_with fail
                      go_ret
                      have hBw := HB6.out.trans (HW12.out.mono hFB)
                      exact ⟨rfl, by first | exact ⟨hBw.1, hBw.2, hBw.3, hBw.4, hBw.5⟩ | (rw [hFe]; exact ⟨hBw.1, hBw.2, hBw.3, hBw.4, hBw.5⟩)⟩
    · have h2z : (65536 : Int) < pre.size := by omega
      go_enter Ybad.func3, Ybad.ntmps3
      go_wp2_with fail
      go_ret
      exact ⟨rfl, Below.refl _ _⟩
  · have h1z : (1024 : Int) < n := by omega
    go_enter Ybad.func3, Ybad.ntmps3
    go_wp2_with fail
    go_ret
    exact ⟨rfl, Below.refl _ _⟩
end Go.Proofs.YbulkcjfkDoor
