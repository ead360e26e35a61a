import Derived.Test.YbulkcjdgSmall2
import Derived.Deep.RegionHeld3
import Derived.Deep.RegionHeldLaw
namespace Go.Proofs.Ybulkcjdg
open Go.RowKit
set_option linter.unusedVariables false

theorem Mv.ofDrew {w w' : World} {v v' : Value} (h : Mv w.drew v w' v') : Mv w v w' v' := ⟨⟨h.grown.os, h.grown.tape, h.grown.output, h.grown.size, h.grown.block⟩, h.own⟩

set_option maxHeartbeats 1000000 in
theorem top_route (T B : Nat) (v0 : Value) (q sl sc al ac : Nat) (lo src : Int) (w0 w : World) (hlo1 : -128 ≤ lo) (hlo2 : lo ≤ 127) (hq40 : q ≤ 100) (hB : Below B w0 w) (hBs : B ≤ w.heap.size) (hown : OwnI B w v0 [])
    (sa aa : Option Addr) (S : List (List Int)) (A : List Bool) (hS : StepsAt w0 B sa sl S q) (hA : BoolsAt w0 B aa al A)
    (h0 : w.cell? ⟨T, 0, none⟩ = some (.int .i64 lo)) (h1 : w.cell? ⟨T, 1, none⟩ = some (.slice sa sl sc)) (h2 : w.cell? ⟨T, 2, none⟩ = some (.slice aa al ac)) (hTne : some T ≠ v0.ownBlock) :
    Calls Yba.prog 50 #[.pointer (some ⟨T, 0, none⟩), v0, .int .i64 src, .int .i64 (lo + q)] w fun e w' => ∃ v, e = .returned v ∧ OwnI B w' v (rt S A src q (lo + q)) ∧ Mv w v0 w' v := by
  have HC := route_any B v0 q sl sc al ac lo src w0 w.drew hlo1 hlo2 hq40 hB.drew hBs hown sa aa S A hS hA
  have HCC : Hid (Calls Yba.prog 18 #[v0, .int .i64 lo, .slice sa sl sc, .slice aa al ac, .int .i64 src, .int .i64 (lo + q)] w.drew fun e w' => ∃ v, e = .returned v ∧ OwnI B w' v (rt S A src q (lo + q)) ∧ Mv w.drew v0 w' v) := HC
  clear HC hown hB hS hA
  go_enter Yba.func50, Yba.ntmps50
  go_wp2
  go_region_held3 (fun w' => w'.cell? ⟨T, 0, none⟩ = some (.int .i64 lo) ∧ w'.cell? ⟨T, 1, none⟩ = some (.slice sa sl sc) ∧ w'.cell? ⟨T, 2, none⟩ = some (.slice aa al ac)) (go_keep) (first | (go_at_call 18; refine HCC.out.mono ?_; rintro e w9 ⟨v, rfl, hO, hM⟩; have k0 := hM.grown.cell (a := ⟨T, 0, none⟩) h0 hTne; have k1 := hM.grown.cell (a := ⟨T, 1, none⟩) h1 hTne; have k2 := hM.grown.cell (a := ⟨T, 2, none⟩) h2 hTne))
  all_goals
    go_wp2
    go_ret
    exact ⟨_, rfl, hO, hM.ofDrew⟩
end Go.Proofs.Ybulkcjdg
