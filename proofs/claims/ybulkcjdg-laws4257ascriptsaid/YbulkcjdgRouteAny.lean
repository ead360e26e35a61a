import Derived.Test.YbulkcjdgRoute
namespace Go.Proofs.Ybulkcjdg
open Go.RowKit

/-- The steps that came in, as the route reads them at number q. -/
structure StepsAt (w : World) (B : Nat) (sa : Option Addr) (sl : Nat) (S : List (List Int)) (q : Nat) : Prop where
  len : S.length = sl
  row : q < sl → ∃ sb so a c, sa = some ⟨sb, so, none⟩ ∧ sb < B ∧ w.cell? ⟨sb, so + q, none⟩ = some (.slice a (S.getD q []).length c) ∧ (S.getD q []).length ≤ 9223372036854775807 ∧
    RowAt w B a (S.getD q []).length (fun j => .int .i8 ((S.getD q []).getD j 0)) ∧ ∀ x ∈ S.getD q [], -128 ≤ x ∧ x ≤ 127
/-- A slice of bools that came in. -/
structure BoolsAt (w : World) (B : Nat) (a : Option Addr) (n : Nat) (A : List Bool) : Prop where
  len : A.length = n
  row : RowAt w B a n (fun j => .bool (A.getD j false))

theorem getD_far {α : Type} (l : List α) (q : Nat) (d : α) (h : l.length ≤ q) : l.getD q d = d := by simp [List.getD, List.getElem?_eq_none h]

theorem route_any (B : Nat) (v0 : Value) (q sl sc al ac : Nat) (lo src : Int) (w0 w : World) (hlo1 : -128 ≤ lo) (hlo2 : lo ≤ 127) (hq40 : q ≤ 100) (hB : Below B w0 w) (hBs : B ≤ w.heap.size) (hown : OwnI B w v0 [])
    (sa aa : Option Addr) (S : List (List Int)) (A : List Bool) (hS : StepsAt w0 B sa sl S q) (hA : BoolsAt w0 B aa al A) :
    Calls Yba.prog 18 #[v0, .int .i64 lo, .slice sa sl sc, .slice aa al ac, .int .i64 src, .int .i64 (lo + q)] w fun e w' => ∃ v, e = .returned v ∧ OwnI B w' v (rt S A src q (lo + q)) ∧ Mv w v0 w' v := by
  have hAF : al ≤ q → arr A q (lo + q) = [] := fun h => by unfold arr; rw [getD_far A q false (by rw [hA.len]; exact h)]; rfl
  have hAT : A.getD q false = true → arr A q (lo + q) = [lo + q] := fun h => by unfold arr; rw [if_pos h]
  have hAN : A.getD q false = false → arr A q (lo + q) = [] := fun h => by unfold arr; rw [h]; rfl
  have hSN : sl ≤ q → hops S q = [] := fun h => by unfold hops; rw [getD_far S q [] (by rw [hS.len]; exact h)]; rfl
  by_cases hq : q < sl
  · obtain ⟨sb, so, a, c, rfl, hsb, hcell, hn63, hrow, hzs⟩ := hS.row hq
    by_cases hal : q < al
    · rcases hA.row with h0 | ⟨ab, ao, rfl, hab, hc⟩
      · omega
      have hac : w0.cell? ⟨ab, ao + q, none⟩ = some (.bool (A.getD q false)) := hc q hal
      cases hb : A.getD q false with
      | true =>
        rw [hb] at hac
        exact route_YT B v0 q sl sc al ac lo src w0 w hlo1 hlo2 hq40 hB hBs hown sb so a _ c (S.getD q []) hq hsb rfl hcell hrow hzs hn63 ab ao hal hab hac _ (by show _ = _; unfold rt hops; rw [hAT hb])
      | false =>
        rw [hb] at hac
        exact route_YF B v0 q sl sc al ac lo src w0 w hlo1 hlo2 hq40 hB hBs hown sb so a _ c (S.getD q []) hq hsb rfl hcell hrow hzs hn63 ab ao hal hab hac _ (by show _ = _; unfold rt hops; rw [hAN hb]; simp)
    · exact route_YN B v0 q sl sc al ac lo src w0 w hlo1 hlo2 hq40 hB hBs hown sb so a _ c (S.getD q []) hq hsb rfl hcell hrow hzs hn63 aa (by omega) _ (by show _ = _; unfold rt hops; rw [hAF (by omega)]; simp)
  · by_cases hal : q < al
    · rcases hA.row with h0 | ⟨ab, ao, rfl, hab, hc⟩
      · omega
      have hac : w0.cell? ⟨ab, ao + q, none⟩ = some (.bool (A.getD q false)) := hc q hal
      cases hb : A.getD q false with
      | true =>
        rw [hb] at hac
        exact route_NT B v0 q sl sc al ac lo src w0 w hlo1 hlo2 hq40 hB hBs hown sa (by omega) ab ao hal hab hac _ (by show _ = _; unfold rt; rw [hAT hb, hSN (by omega)])
      | false =>
        rw [hb] at hac
        exact route_NF B v0 q sl sc al ac lo src w0 w hlo1 hlo2 hq40 hB hBs hown sa (by omega) ab ao hal hab hac _ (by show _ = _; unfold rt; rw [hAN hb, hSN (by omega)]; rfl)
    · exact route_NN B v0 q sl sc al ac lo src w0 w hlo1 hlo2 hq40 hB hBs hown sa (by omega) aa (by omega) _ (by show _ = _; unfold rt; rw [hAF (by omega), hSN (by omega)]; rfl)
end Go.Proofs.Ybulkcjdg
