import Derived.Test.YbulkcjfkDoorU2
namespace Go.Proofs.YbulkcjfkDoor
open Go.RowKit Go.Deep
set_option linter.unusedVariables false
set_option linter.unusedSimpArgs false

theorem isMap_any (f k : Nat) (w : World) (h1 : w.cell? ⟨f, 1, none⟩ = some (.pointer (some ⟨k, 0, none⟩))) (h8 : w.cell? ⟨k, 8, none⟩ = some (.pointer none)) :
    Calls Ybad.prog 22 #[.pointer (some ⟨f, 0, none⟩)] w fun e w' => e = .returned (.bool false) ∧ w' = w := by
  go_enter Ybad.func22, Ybad.ntmps22
  go_wp2_with fail
  go_ret
  exact ⟨rfl, rfl⟩
/-- (*field).goType of a repeated field that is no map. -/
theorem goType_any (f k q : Nat) (g : ByteArray) (w : World) (hg9 : g.size ≤ 4096) (h0 : w.cell? ⟨f, 0, none⟩ = some (.pointer (some ⟨q, 0, none⟩))) (h1 : w.cell? ⟨f, 1, none⟩ = some (.pointer (some ⟨k, 0, none⟩))) (hq : w.cell? ⟨q, 2, none⟩ = some (.int .i32 3)) (h8 : w.cell? ⟨k, 8, none⟩ = some (.pointer none)) (hg : w.cell? ⟨k, 0, none⟩ = some (.string g)) :
    Calls Ybad.prog 14 #[.pointer (some ⟨f, 0, none⟩)] w fun e w' => ∃ r : ByteArray, e = .returned (.string r) ∧ w' = w ∧ r.data.toList = [91, 93] ++ g.data.toList := by
  have N := hidden (isMap_any f k w h1 h8)
  go_enter Ybad.func14, Ybad.ntmps14
  go_wp2_with (go_at_call 22; refine N.out.mono ?_; rintro e w9 ⟨rfl, hw9⟩; have hw8 := hw9.symm; subst hw8)
  go_ret
  exact ⟨_, rfl, rfl, by simp [ByteArray.data_append]⟩
/-- The blocks that generateGetter reads. -/
structure Gt (w : World) (b f k m q : Nat) (on : Option Nat) (lbl : Int) (pr : Bool) (mN fN g z d oN wr : ByteArray) : Prop where
  hf : ∃ c fz, w.heap[f]? = some (.cells c 35 fz) ∧ c[0]? = some (.pointer (some ⟨q, 0, none⟩)) ∧ c[1]? = some (.pointer (some ⟨k, 0, none⟩)) ∧ c[2]? = some (.string fN) ∧ c[4]? = some (.bool pr) ∧ c[5]? = some (.pointer (on.map fun o => ⟨o, 0, none⟩)) ∧ c[6]? = some (.string wr) ∧ c[10]? = some (.string d)
  fne : some f ≠ some b
  hk : ∃ c fz, w.heap[k]? = some (.cells c 31 fz) ∧ c[0]? = some (.string g) ∧ c[1]? = some (.string z) ∧ c[8]? = some (.pointer none)
  kne : some k ≠ some b
  hm : ∃ c fz, w.heap[m]? = some (.cells c 68 fz) ∧ c[2]? = some (.string mN)
  mne : some m ≠ some b
  hq : ∃ c fz, w.heap[q]? = some (.cells c 55 fz) ∧ c[2]? = some (.int .i32 lbl)
  qne : some q ≠ some b
  ho : ∀ o, on = some o → (∃ c fz, w.heap[o]? = some (.cells c 57 fz) ∧ c[1]? = some (.string oN)) ∧ some o ≠ some b
theorem Gt.kept {w w' : World} {b f k m q : Nat} {on : Option Nat} {lbl : Int} {pr : Bool} {mN fN g z d oN wr : ByteArray} (h : Gt w b f k m q on lbl pr mN fN g z d oN wr) (hK : Lib.OthersKept 5 (some b) w w') : Gt w' b f k m q on lbl pr mN fN g z d oN wr := by
  refine ⟨?_, h.fne, ?_, h.kne, ?_, h.mne, ?_, h.qne, fun o ho => ?_⟩
  · obtain ⟨c, fz, h1, h2⟩ := h.hf
    exact ⟨c, fz, hK _ _ h1 h.fne (fun c fz e => by cases e), h2⟩
  · obtain ⟨c, fz, h1, h2⟩ := h.hk
    exact ⟨c, fz, hK _ _ h1 h.kne (fun c fz e => by cases e), h2⟩
  · obtain ⟨c, fz, h1, h2⟩ := h.hm
    exact ⟨c, fz, hK _ _ h1 h.mne (fun c fz e => by cases e), h2⟩
  · obtain ⟨c, fz, h1, h2⟩ := h.hq
    exact ⟨c, fz, hK _ _ h1 h.qne (fun c fz e => by cases e), h2⟩
  · obtain ⟨⟨c, fz, h1, h2⟩, h3⟩ := h.ho o ho
    exact ⟨⟨c, fz, hK _ _ h1 h3 (fun c fz e => by cases e), h2⟩, h3⟩
end Go.Proofs.YbulkcjfkDoor
