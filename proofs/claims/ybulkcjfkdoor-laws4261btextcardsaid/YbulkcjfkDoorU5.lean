import Derived.Test.YbulkcjfkDoorU4
namespace Go.Proofs.YbulkcjfkDoor
open Go.RowKit Go.Deep
set_option linter.unusedVariables false
set_option linter.unusedSimpArgs false

theorem Gt.cells {w : World} {b f k m q : Nat} {on : Option Nat} {lbl : Int} {pr : Bool} {mN fN g z d oN wr : ByteArray} (h : Gt w b f k m q on lbl pr mN fN g z d oN wr) :
    w.cell? ⟨f, 0, none⟩ = some (.pointer (some ⟨q, 0, none⟩)) ∧ w.cell? ⟨f, 1, none⟩ = some (.pointer (some ⟨k, 0, none⟩)) ∧ w.cell? ⟨f, 2, none⟩ = some (.string fN) ∧ w.cell? ⟨f, 4, none⟩ = some (.bool pr) ∧ w.cell? ⟨f, 5, none⟩ = some (.pointer (on.map fun o => ⟨o, 0, none⟩)) ∧ w.cell? ⟨f, 6, none⟩ = some (.string wr) ∧ w.cell? ⟨f, 10, none⟩ = some (.string d) ∧
    w.cell? ⟨k, 0, none⟩ = some (.string g) ∧ w.cell? ⟨k, 1, none⟩ = some (.string z) ∧ w.cell? ⟨k, 8, none⟩ = some (.pointer none) ∧ w.cell? ⟨m, 2, none⟩ = some (.string mN) ∧ w.cell? ⟨q, 2, none⟩ = some (.int .i32 lbl) := by
  obtain ⟨c, fz, h1, a0, a1, a2, a4, a5, a6, a10⟩ := h.hf
  obtain ⟨c', fz', k1, k2, k3, k4⟩ := h.hk
  obtain ⟨c2, fz2, m1, m2⟩ := h.hm
  obtain ⟨c3, fz3, q1, q2⟩ := h.hq
  refine ⟨?_, ?_, ?_, ?_, ?_, ?_, ?_, ?_, ?_, ?_, ?_, ?_⟩
  · simp only [World.cell?, h1]; exact a0
  · simp only [World.cell?, h1]; exact a1
  · simp only [World.cell?, h1]; exact a2
  · simp only [World.cell?, h1]; exact a4
  · simp only [World.cell?, h1]; exact a5
  · simp only [World.cell?, h1]; exact a6
  · simp only [World.cell?, h1]; exact a10
  · simp only [World.cell?, k1]; exact k2
  · simp only [World.cell?, k1]; exact k3
  · simp only [World.cell?, k1]; exact k4
  · simp only [World.cell?, m1]; exact m2
  · simp only [World.cell?, q1]; exact q2
end Go.Proofs.YbulkcjfkDoor
