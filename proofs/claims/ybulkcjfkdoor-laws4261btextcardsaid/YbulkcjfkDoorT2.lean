import Derived.Test.YbulkcjfkDoorT1
import Derived.Deep.LoopGhost
import Derived.Deep.CutRange
import Derived.Deep.DeepCutAuto
import Derived.Deep.RegionHeld3
import Derived.BigQuiet
import Derived.Deep.OwnRows
namespace Go.Proofs.YbulkcjfkDoor
open Go.RowKit Go.Deep
set_option linter.unusedVariables false
set_option linter.unusedSimpArgs false

theorem hidden {p : Prop} (h : p) : Hid p := h
/-- The bytes of some strings, one behind the other. -/
def bytesOf (ss : List ByteArray) : List UInt8 := (ss.map (·.data.toList)).flatten
theorem bytesOf_snoc (ss : List ByteArray) (s : ByteArray) : bytesOf (ss ++ [s]) = bytesOf ss ++ s.data.toList := by simp [bytesOf]
theorem take_snoc {α : Type} (l : List α) (i : Nat) (h : i < l.length) : l.take (i + 1) = l.take i ++ [l[i]] := by rw [List.take_add_one, List.getElem?_eq_getElem h]; rfl
theorem bytesOf_le {ss : List ByteArray} {i : Nat} : (bytesOf (ss.take i)).length ≤ (bytesOf ss).length := by
  have h : bytesOf ss = bytesOf (ss.take i) ++ bytesOf (ss.drop i) := by
    unfold bytesOf
    rw [← List.flatten_append, ← List.map_append, List.take_append_drop]
  rw [h, List.length_append]
  omega

set_option maxRecDepth 100000 in
set_option maxHeartbeats 2000000 in
/-- (*printer).line -/
theorem line_any (R : Nat → Option Value) (B b X n : Nat) (l : List UInt8) (ss : List ByteArray) (w : World) (h : LibA.IsBuffer 43 R 5 B b 0 (Lib.byteCells l) w) (hBw : B ≤ w.heap.size) (hn : ss.length = n) (hX : w.heap[X]? = some (.cells (ss.map Value.string).toArray 9)) (hlim : l.length + (bytesOf ss).length + 1 ≤ 140737488355328) (hn9 : n ≤ 1024) :
    Calls Ybad.prog 13 #[.pointer (some ⟨b, 0, none⟩), .slice (some ⟨X, 0, none⟩) n n] w fun e w' => e = .returned (.tuple #[]) ∧ LibA.IsBuffer 43 R 5 B b 0 (Lib.byteCells (l ++ bytesOf ss ++ [10])) w' ∧ Below B w w' ∧ Lib.OthersKept 5 (some b) w w' := by
  have hXb : ¬ some X = some b := by
    intro e
    obtain rfl := Option.some.inj e
    obtain ⟨_, v, lr, ht, _⟩ := h
    have := ht.tag hX
    cases this
  have H := hidden h
  have HX := hidden hX
  have HL := hidden hlim
  have HN := hidden hn
  clear h hX hlim hn
  go_enter Ybad.func13, Ybad.ntmps13
  go_wp2_with fail
  go_loopg [8] n (fun g iv wr => ∃ i : Nat, g + i = n ∧ iv = .int .i64 i ∧ LibA.IsBuffer 43 R 5 B b 0 (Lib.byteCells (l ++ bytesOf (ss.take i))) wr ∧ Below B w wr ∧ Lib.OthersKept 5 (some b) w wr)
  case atStart => exact ⟨0, by omega, rfl, by simpa [bytesOf] using H.out, Below.refl _ _, Lib.OthersKept.refl _ _ _⟩
  case round =>
    obtain ⟨i, hgi, rfl, hI, hBl, hK⟩ := hrel
    have HI := hidden hI
    have HBl := hidden hBl
    have HK := hidden hK
    clear hI hBl hK
    by_cases hi : i < n
    · have hiz : (i : Int) < n := by omega
      have hin : i < ss.length := by rw [HN.out]; exact hi
      have hXw := HK.out X _ HX.out hXb (fun c fz e => by cases e)
      have cx : wr.cell? ⟨X, i, none⟩ = some (.string ss[i]) := by simp [World.cell?, hXw, hin]
      have HT := hidden (take_snoc ss i hin)
      obtain ⟨t, ht⟩ : ∃ t, ss[i] = t := ⟨_, rfl⟩
      rw [ht] at cx HT
      have hle : (bytesOf (ss.take i ++ [t])).length ≤ (bytesOf ss).length := by rw [← HT.out]; exact bytesOf_le
      rw [bytesOf_snoc, List.length_append] at hle
      have hts : t.size = t.data.toList.length := by rw [Lib.size_eq]
      have WS := hidden (Ybad.writeString 43 R B b 0 _ t wr HI.out (Nat.le_trans hBw HBl.out.size) (Lib.byteCells_one _) (by
        have := HL.out
        rw [Lib.byteCells_length, List.length_append]
        omega))
      have hbb : b < wr.heap.size := HI.out.lt
      clear ht hXw hts hle
      go_wp2_with (go_at_call 5; refine WS.out.mono ?_; rintro e w5 ⟨rfl, hI5, hB5, hK5⟩; have HI5 := hidden hI5; have HB5 := hidden hB5; have HK5 := hidden hK5; clear hI5 hB5 hK5)
      go_roundg (n - (i + 1))
      case measure => omega
      case rel =>
        refine ⟨i + 1, by omega, by go_num, ?_, HBl.out.trans HB5.out, HK.out.trans HK5.out⟩
        rw [HT.out, bytesOf_snoc, ← List.append_assoc, Lib.byteCells_append]
        exact HI5.out
    · obtain rfl : i = n := by omega
      have hiz : ¬ (i : Int) < i := by omega
      have hI2 := HI.out
      rw [← HN.out, List.take_length] at hI2
      have WB := hidden (Ybad.writeByte 43 R B b 0 _ 10 wr hI2 (Nat.le_trans hBw HBl.out.size) (Lib.byteCells_one _) (by
        have := HL.out
        rw [Lib.byteCells_length, List.length_append]
        omega))
      clear hI2
      go_wp2_with (go_at_call 21; refine WB.out.mono ?_; rintro e w5 ⟨rfl, hI5, hB5, hK5⟩)
      go_end0
      refine ⟨rfl, ?_, HBl.out.trans hB5, HK.out.trans hK5⟩
      rw [Lib.byteCells_append]
      exact hI5
end Go.Proofs.YbulkcjfkDoor
