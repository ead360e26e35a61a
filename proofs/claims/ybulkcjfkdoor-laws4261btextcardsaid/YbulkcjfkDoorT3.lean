import Derived.Test.YbulkcjfkDoorT2
namespace Go.Proofs.YbulkcjfkDoor
open Go.RowKit Go.Deep
set_option linter.unusedVariables false
set_option linter.unusedSimpArgs false

def t1 : ByteArray := { data := ([47, 47, 32, 84, 104, 101, 32, 102, 105, 101, 108, 100, 115, 32, 114, 101, 97, 100, 32, 104, 101, 114, 101, 32, 116, 104, 97, 116, 32, 112, 111, 105, 110].append [116, 32, 116, 111, 32, 116, 104, 101, 105, 114, 32, 118, 97, 108, 117, 101, 115, 32, 112, 111, 105, 110, 116, 32, 105, 110, 116, 111, 32, 118, 97, 108, 115, 44]).toArray }
def t2 : ByteArray := { data := #[47, 47, 32, 111, 110, 101, 32, 97, 108, 108, 111, 99, 97, 116, 105, 111, 110, 32, 102, 111, 114, 32, 116, 104, 101, 109, 32, 97, 108, 108, 46] }
def t3 : ByteArray := { data := #[116, 121, 112, 101, 32, 118, 97, 108, 117, 101, 115, 32, 115, 116, 114, 117, 99, 116, 32, 123] }
def t4 : ByteArray := { data := #[125] }
def t5 : ByteArray := { data := #[118, 97, 114, 32, 118, 97, 108, 115, 32, 42, 118, 97, 108, 117, 101, 115] }
def sp : ByteArray := { data := #[32] }
theorem size1 : t1.data.toList.length = 67 := by decide
theorem size2 : t2.data.toList.length = 31 := by decide
theorem size3 : t3.data.toList.length = 20 := by decide
theorem size4 : t4.data.toList.length = 1 := by decide
theorem size5 : t5.data.toList.length = 16 := by decide

/-- One line of one part. -/
theorem line1 (R : Nat → Option Value) (B b X : Nat) (l : List UInt8) (s : ByteArray) (w : World) (h : LibA.IsBuffer 43 R 5 B b 0 (Lib.byteCells l) w) (hBw : B ≤ w.heap.size) (hX : w.heap[X]? = some (.cells #[.string s] 9)) (hlim : l.length + s.data.toList.length + 1 ≤ 140737488355328) :
    Calls Ybad.prog 13 #[.pointer (some ⟨b, 0, none⟩), .slice (some ⟨X, 0, none⟩) 1 1] w fun e w' => e = .returned (.tuple #[]) ∧ LibA.IsBuffer 43 R 5 B b 0 (Lib.byteCells (l ++ s.data.toList ++ [10])) w' ∧ Below B w w' ∧ Lib.OthersKept 5 (some b) w w' := by
  have e : bytesOf [s] = s.data.toList := by simp [bytesOf]
  have := line_any R B b X 1 l [s] w h hBw rfl hX (by rw [e]; exact hlim) (by omega)
  rwa [e] at this
theorem line3 (R : Nat → Option Value) (B b X : Nat) (l : List UInt8) (s u v : ByteArray) (w : World) (h : LibA.IsBuffer 43 R 5 B b 0 (Lib.byteCells l) w) (hBw : B ≤ w.heap.size) (hX : w.heap[X]? = some (.cells #[.string s, .string u, .string v] 9)) (hlim : l.length + (s.data.toList ++ (u.data.toList ++ v.data.toList)).length + 1 ≤ 140737488355328) :
    Calls Ybad.prog 13 #[.pointer (some ⟨b, 0, none⟩), .slice (some ⟨X, 0, none⟩) 3 3] w fun e w' => e = .returned (.tuple #[]) ∧ LibA.IsBuffer 43 R 5 B b 0 (Lib.byteCells (l ++ (s.data.toList ++ (u.data.toList ++ v.data.toList)) ++ [10])) w' ∧ Below B w w' ∧ Lib.OthersKept 5 (some b) w w' := by
  have e : bytesOf [s, u, v] = s.data.toList ++ (u.data.toList ++ v.data.toList) := by simp [bytesOf]
  have := line_any R B b X 3 l [s, u, v] w h hBw rfl hX (by rw [e]; exact hlim) (by omega)
  rwa [e] at this

/-- The fields' blocks. -/
structure Flds (w : World) (b F n : Nat) (fb kb : Nat → Nat) (nm ty : Nat → ByteArray) : Prop where
  row : ∃ c fz, w.heap[F]? = some (.cells c 26 fz) ∧ ∀ i, i < n → c[i]? = some (.pointer (some ⟨fb i, 0, none⟩))
  ne : some F ≠ some b
  f : ∀ i, i < n → ∃ c fz, w.heap[fb i]? = some (.cells c 35 fz) ∧ c[1]? = some (.pointer (some ⟨kb i, 0, none⟩)) ∧ c[2]? = some (.string (nm i))
  fne : ∀ i, i < n → some (fb i) ≠ some b
  k : ∀ i, i < n → ∃ c fz, w.heap[kb i]? = some (.cells c 31 fz) ∧ c[0]? = some (.string (ty i))
  kne : ∀ i, i < n → some (kb i) ≠ some b
theorem Flds.kept {w w' : World} {b F n : Nat} {fb kb : Nat → Nat} {nm ty : Nat → ByteArray} (h : Flds w b F n fb kb nm ty) (hK : Lib.OthersKept 5 (some b) w w') : Flds w' b F n fb kb nm ty := by
  refine ⟨?_, h.ne, fun i hi => ?_, h.fne, fun i hi => ?_, h.kne⟩
  · obtain ⟨c, fz, h1, h2⟩ := h.row
    exact ⟨c, fz, hK _ _ h1 h.ne (fun c fz e => by cases e), h2⟩
  · obtain ⟨c, fz, h1, h2⟩ := h.f i hi
    exact ⟨c, fz, hK _ _ h1 (h.fne i hi) (fun c fz e => by cases e), h2⟩
  · obtain ⟨c, fz, h1, h2⟩ := h.k i hi
    exact ⟨c, fz, hK _ _ h1 (h.kne i hi) (fun c fz e => by cases e), h2⟩
theorem Flds.cell0 {w : World} {b F n : Nat} {fb kb : Nat → Nat} {nm ty : Nat → ByteArray} (h : Flds w b F n fb kb nm ty) {i : Nat} (hi : i < n) : w.cell? ⟨F, i, none⟩ = some (.pointer (some ⟨fb i, 0, none⟩)) := by
  obtain ⟨c, fz, h1, h2⟩ := h.row
  simp [World.cell?, h1, h2 i hi]
theorem Flds.cell1 {w : World} {b F n : Nat} {fb kb : Nat → Nat} {nm ty : Nat → ByteArray} (h : Flds w b F n fb kb nm ty) {i : Nat} (hi : i < n) : w.cell? ⟨fb i, 1, none⟩ = some (.pointer (some ⟨kb i, 0, none⟩)) := by
  obtain ⟨c, fz, h1, h2, _⟩ := h.f i hi
  simp [World.cell?, h1, h2]
theorem Flds.cell2 {w : World} {b F n : Nat} {fb kb : Nat → Nat} {nm ty : Nat → ByteArray} (h : Flds w b F n fb kb nm ty) {i : Nat} (hi : i < n) : w.cell? ⟨fb i, 2, none⟩ = some (.string (nm i)) := by
  obtain ⟨c, fz, h1, _, h2⟩ := h.f i hi
  simp [World.cell?, h1, h2]
theorem Flds.cell3 {w : World} {b F n : Nat} {fb kb : Nat → Nat} {nm ty : Nat → ByteArray} (h : Flds w b F n fb kb nm ty) {i : Nat} (hi : i < n) : w.cell? ⟨kb i, 0, none⟩ = some (.string (ty i)) := by
  obtain ⟨c, fz, h1, h2⟩ := h.k i hi
  simp [World.cell?, h1, h2]

/-- The fields' lines. -/
def rowsOf (nm ty : Nat → ByteArray) : Nat → List UInt8
  | 0 => []
  | n + 1 => rowsOf nm ty n ++ ((nm n).data.toList ++ (sp.data.toList ++ (ty n).data.toList)) ++ [10]
theorem rowsOf_le (nm ty : Nat → ByteArray) (n : Nat) (h : ∀ i, i < n → (nm i).data.toList.length ≤ 4096 ∧ (ty i).data.toList.length ≤ 4096) : (rowsOf nm ty n).length ≤ 8194 * n := by
  induction n with
  | zero => simp [rowsOf]
  | succ n ih =>
    have h1 := ih (fun i hi => h i (by omega))
    obtain ⟨h2, h3⟩ := h n (by omega)
    have h4 : sp.data.toList.length = 1 := by decide
    simp only [rowsOf, List.length_append, List.length_cons, List.length_nil, h4]
    omega
def headOf : List UInt8 := t1.data.toList ++ [10] ++ t2.data.toList ++ [10] ++ t3.data.toList ++ [10]
def tailOf : List UInt8 := t4.data.toList ++ [10] ++ t5.data.toList ++ [10]

set_option maxRecDepth 100000 in
set_option maxHeartbeats 2000000 in
theorem gen_any (R : Nat → Option Value) (B b F n cap : Nat) (fb kb : Nat → Nat) (nm ty : Nat → ByteArray) (l : List UInt8) (w : World) (h : LibA.IsBuffer 43 R 5 B b 0 (Lib.byteCells l) w) (hBw : B ≤ w.heap.size) (hF : Flds w b F n fb kb nm ty) (hn : n ≤ 1024) (hl : l.length ≤ 65536) (hs : ∀ i, i < n → (nm i).data.toList.length ≤ 4096 ∧ (ty i).data.toList.length ≤ 4096) :
    Calls Ybad.prog 6 #[.pointer (some ⟨b, 0, none⟩), .slice (some ⟨F, 0, none⟩) n cap] w fun e w' => e = .returned (.tuple #[]) ∧ LibA.IsBuffer 43 R 5 B b 0 (Lib.byteCells (l ++ headOf ++ rowsOf nm ty n ++ tailOf)) w' ∧ Below B w w' ∧ Lib.OthersKept 5 (some b) w w' := by
  have H := hidden h
  have HF := hidden hF
  have HS := hidden hs
  have L1 := hidden (line1 R B b w.heap.size l t1 (w.alloc (.cells #[.string t1] 9)) (h.alloc _) (by rw [nblk_alloc]; omega) (blk_alloc_new _ _) (by rw [size1]; omega))
  clear h hF hs
  go_enter Ybad.func6, Ybad.ntmps6
  go_upto_region 1 with (go_at_call 13; refine L1.out.mono ?_; rintro e w1 ⟨rfl, hI1, hB1, hK1⟩)
  have hN1 : Below B w w1 ∧ Lib.OthersKept 5 (some b) w w1 := ⟨((Below.refl B w).alloc hBw _).trans hB1, ((Lib.OthersKept.refl 5 (some b) w).alloc _).trans hK1⟩
  have HN1 := hidden hN1
  have L2 := hidden (line1 R B b w1.heap.size _ t2 (w1.alloc (.cells #[.string t2] 9)) (hI1.alloc _) (by rw [nblk_alloc]; have := hN1.1.size; omega) (blk_alloc_new _ _) (by simp only [List.length_append, List.length_cons, List.length_nil, size1, size2]; omega))
  clear hI1 hB1 hK1 hN1 L1
  go_upto_region 2 with (go_at_call 13; refine L2.out.mono ?_; rintro e w2 ⟨rfl, hI2, hB2, hK2⟩)
  have hN2 : Below B w w2 ∧ Lib.OthersKept 5 (some b) w w2 := ⟨(HN1.out.1.alloc (Nat.le_trans hBw HN1.out.1.size) _).trans hB2, (HN1.out.2.alloc _).trans hK2⟩
  have HN2 := hidden hN2
  have L3 := hidden (line1 R B b w2.heap.size _ t3 (w2.alloc (.cells #[.string t3] 9)) (hI2.alloc _) (by rw [nblk_alloc]; have := hN2.1.size; omega) (blk_alloc_new _ _) (by simp only [List.length_append, List.length_cons, List.length_nil, size1, size2, size3]; omega))
  clear hI2 hB2 hK2 hN2 L2 HN1
  go_upto_region 3 with (go_at_call 13; refine L3.out.mono ?_; rintro e w3 ⟨rfl, hI3, hB3, hK3⟩)
  have hN3 : Below B w w3 ∧ Lib.OthersKept 5 (some b) w w3 := ⟨(HN2.out.1.alloc (Nat.le_trans hBw HN2.out.1.size) _).trans hB3, (HN2.out.2.alloc _).trans hK3⟩
  have HN3 := hidden hN3
  have hI3' : LibA.IsBuffer 43 R 5 B b 0 (Lib.byteCells (l ++ headOf ++ rowsOf nm ty 0)) w3 := by
    have e : l ++ headOf ++ rowsOf nm ty 0 = l ++ t1.data.toList ++ [10] ++ t2.data.toList ++ [10] ++ t3.data.toList ++ [10] := by simp only [headOf, rowsOf, List.append_assoc, List.append_nil]
    rw [e]; exact hI3
  have HI3 := hidden hI3'
  have hhead : headOf.length = 121 := by decide
  clear hI3 hB3 hK3 hN3 L3 HN2 hI3'
  go_wp2_with fail
  go_loopg [17] n (fun g iv wr => ∃ i : Nat, g + i = n ∧ iv = .int .i64 i ∧ LibA.IsBuffer 43 R 5 B b 0 (Lib.byteCells (l ++ headOf ++ rowsOf nm ty i)) wr ∧ Below B w wr ∧ Lib.OthersKept 5 (some b) w wr)
  case atStart => exact ⟨0, by omega, rfl, HI3.out, HN3.out.1, HN3.out.2⟩
  case round =>
    obtain ⟨i, hgi, rfl, hI, hBl, hK⟩ := hrel
    have HI := hidden hI
    have HBl := hidden hBl
    have HK := hidden hK
    clear hI hBl hK HI3 HN3
    by_cases hi : i < n
    · have hiz : (i : Int) < n := by omega
      have hF := HF.out.kept HK.out
      have c0 := hF.cell0 hi
      have c1 := hF.cell1 hi
      have c2 := hF.cell2 hi
      have c3 := hF.cell3 hi
      have hle := rowsOf_le nm ty i (fun j hj => HS.out j (by omega))
      obtain ⟨hs1, hs2⟩ := HS.out i hi
      have hsp : sp.data.toList.length = 1 := by decide
      have L := hidden (line3 R B b wr.heap.size _ (nm i) sp (ty i) (wr.drew.alloc (.cells #[.string (nm i), .string sp, .string (ty i)] 9)) (LibA.IsBuffer.alloc (w := wr.drew) HI.out _) (by rw [nblk_alloc]; have := HBl.out.size; show B ≤ wr.heap.size + 1; omega) (blk_alloc_new wr.drew _) (by
        simp only [List.length_append, hhead, hsp]
        omega))
      clear hF hle hs1 hs2
      go_upto_region 6 with fail
      go_region_held3 (fun w' => w'.cell? ⟨fb i, 1, none⟩ = some (.pointer (some ⟨kb i, 0, none⟩)) ∧ w'.cell? ⟨fb i, 2, none⟩ = some (.string (nm i)) ∧ w'.cell? ⟨kb i, 0, none⟩ = some (.string (ty i))) (go_keep) (first
        | (go_at_call 13; refine L.out.mono ?_; rintro e w5 ⟨rfl, hI5, hB5, hK5⟩; have hF5 := HF.out.kept ((HK.out.drew.alloc _).trans hK5); have k1 := hF5.cell1 hi; have k2 := hF5.cell2 hi; have k3 := hF5.cell3 hi; have HI5 := hidden hI5; have HB5 := hidden hB5; have HK5 := hidden hK5; clear hI5 hB5 hK5 hF5))
      go_wp2_with fail
      go_roundg (n - (i + 1))
      case measure => omega
      case rel =>
        refine ⟨i + 1, by omega, by go_num, ?_, (Below.alloc (w := wr.drew) (have h := HBl.out; ⟨h.1, h.2, h.3, h.4, h.5⟩) (Nat.le_trans hBw HBl.out.size) _).trans HB5.out, (HK.out.drew.alloc _).trans HK5.out⟩
        have e : l ++ headOf ++ rowsOf nm ty (i + 1) = l ++ headOf ++ rowsOf nm ty i ++ ((nm i).data.toList ++ (sp.data.toList ++ (ty i).data.toList)) ++ [10] := by simp only [rowsOf, List.append_assoc]
        rw [e]
        exact HI5.out
    · obtain rfl : i = n := by omega
      have hiz : ¬ (i : Int) < i := by omega
      have hle := rowsOf_le nm ty i (fun j hj => HS.out j (by omega))
      have L4 := hidden (line1 R B b wr.heap.size _ t4 (wr.alloc (.cells #[.string t4] 9)) (HI.out.alloc _) (by rw [nblk_alloc]; have := HBl.out.size; omega) (blk_alloc_new _ _) (by simp only [List.length_append, hhead, size4]; omega))
      go_upto_region 9 with (go_at_call 13; refine L4.out.mono ?_; rintro e w4 ⟨rfl, hI4, hB4, hK4⟩)
      have hN4 : Below B w w4 ∧ Lib.OthersKept 5 (some b) w w4 := ⟨(HBl.out.alloc (Nat.le_trans hBw HBl.out.size) _).trans hB4, (HK.out.alloc _).trans hK4⟩
      have HN4 := hidden hN4
      have L5 := hidden (line1 R B b w4.heap.size _ t5 (w4.alloc (.cells #[.string t5] 9)) (hI4.alloc _) (by rw [nblk_alloc]; have := hN4.1.size; omega) (blk_alloc_new _ _) (by simp only [List.length_append, List.length_cons, List.length_nil, hhead, size4, size5]; omega))
      clear hI4 hB4 hK4 hN4 L4
      go_wp2_with (go_at_call 13; refine L5.out.mono ?_; rintro e w5 ⟨rfl, hI5, hB5, hK5⟩)
      go_end0
      refine ⟨rfl, ?_, (HN4.out.1.alloc (Nat.le_trans hBw HN4.out.1.size) _).trans hB5, (HN4.out.2.alloc _).trans hK5⟩
      have e : l ++ headOf ++ rowsOf nm ty i ++ tailOf = l ++ headOf ++ rowsOf nm ty i ++ t4.data.toList ++ [10] ++ t5.data.toList ++ [10] := by simp only [tailOf, List.append_assoc]
      rw [e]
      exact hI5
end Go.Proofs.YbulkcjfkDoor
