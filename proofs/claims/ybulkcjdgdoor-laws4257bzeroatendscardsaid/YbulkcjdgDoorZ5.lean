import Derived.Test.YbulkcjdgDoorZ4
namespace Go.Proofs.YbulkcjdgDoor
open Go.RowKit
set_option linter.unusedVariables false
set_option linter.unusedSimpArgs false

theorem walkTo_any (E t a n : Nat) (ru rd k : Int) (w : World) (h4 : w.cell? ⟨E, 4, none⟩ = some (.int .i64 ru)) (h5 : w.cell? ⟨E, 5, none⟩ = some (.int .i64 rd)) (ht : t < 18446744073709551616) (ha : a < 18446744073709551616) (hn : n < 18446744073709551616) :
    Calls Ybad.prog 13 #[.pointer (some ⟨E, 0, none⟩), .int .u64 t, .int .u64 a, .int .u64 n, .int .i64 k] w fun e w' => ∃ d : Nat, (∃ v : Value, e = .returned (.tuple #[.int .u64 d, v])) ∧ w' = w ∧ d < 18446744073709551616 ∧ (1 ≤ n → (d = 0 ↔ up64 t a < n)) := by
  have hts := up64_wrap t a ht ha
  have htl := up64_lt t a
  obtain ⟨en, hen, henl, hee⟩ : ∃ en : Nat, IntKind.u64.wrap (IntKind.u64.wrap ((a : Int) + n) - 1) = en ∧ en < 18446744073709551616 ∧ (en : Int) = ((a : Int) + n - 1) % 18446744073709551616 := by
    refine ⟨(((a : Int) + n - 1) % 18446744073709551616).toNat, ?_, by omega, by omega⟩
    rw [IntKind.wrap_u64, IntKind.wrap_u64]; omega
  have hdn := up64_wrap a t ha ht
  have hup := up64_wrap t en ht henl
  have hdl := up64_lt a t
  have hul := up64_lt t en
  have hne1 : 1 ≤ n → ¬ up64 t a < n → up64 a t ≠ 0 := by intro h1 h2; unfold up64 at *; omega
  have hne2 : 1 ≤ n → ¬ up64 t a < n → up64 t en ≠ 0 := by intro h1 h2; unfold up64 at *; omega
  refine (walkTo_R (fun d => ∃ m : Nat, d = m ∧ m < 18446744073709551616 ∧ (1 ≤ n → (m = 0 ↔ up64 t a < n))) E t a n _ _ _ _ ru rd k w h4 h5 hts hen hdn hup (hidden fun h => ⟨0, rfl, by omega, fun _ => ⟨fun _ => by omega, fun _ => rfl⟩⟩)
    (hidden fun h => ⟨⟨_, rfl, hdl, fun h1 => ?_⟩, ⟨_, rfl, hul, fun h1 => ?_⟩, ⟨18446744073709551615, rfl, by omega, fun h1 => ?_⟩⟩)).mono ?_
  · have := hne1 h1 (by omega)
    omega
  · have := hne2 h1 (by omega)
    omega
  · omega
  · rintro e w' ⟨d, ⟨v, rfl⟩, rfl, m, rfl, h1, h2⟩
    exact ⟨m, ⟨v, rfl⟩, rfl, h1, h2⟩
end Go.Proofs.YbulkcjdgDoor
