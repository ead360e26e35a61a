import Derived.Test.YbulkcjdgLaw1
namespace Go.Proofs.Ybulkcjdg
open Go.RowKit
open Go.Deep (blk_alloc_lt blk_alloc_new nblk_alloc blk_setCell_other nblk_setCell)
set_option linter.unusedVariables false
set_option linter.unusedSimpArgs false

theorem clone_any {B : Nat} {w : World} {v : Value} {l : List Int} (h : OwnI B w v l) (hl : l.length ≤ 1000000) :
    Calls Yba.prog 16 #[v] w fun e w' => ∃ v', e = .returned v' ∧ OwnI w.heap.size w' v' l ∧ Below w.heap.size w w' := by
  rcases h.2 with ⟨rfl, hn⟩ | ⟨g, cap, cur, rfl, _⟩
  · obtain rfl : l = [] := List.eq_nil_of_length_eq_zero hn
    exact (clone_nil w).mono fun e w' ⟨he, hw⟩ => by subst he; subst hw; exact ⟨_, rfl, OwnI.nil _ _, Below.refl _ _⟩
  · exact clone_some g cap l.length l rfl hl w (fun j hj => h.cell j hj)

section
variable {w wc w5 : World} {sa aa ra ma ba za ia : Option Addr} {sl sc al ac rl rc ml mc bl zl il : Nat} {S : List (List Int)} {A Rc : List Bool} {M : List Int} {Bq Zq : List Bool} {I : List Int} {lo : Int} {zv vin : Value} {T R : Nat}

theorem P2.given (hI : LI w sa aa ra ma ba za ia sl al rl ml bl zl il S A Rc M Bq Zq I) (lo1 : -128 ≤ lo) (lo2 : lo ≤ 127)
    (h : P2 w Bq Zq lo (.slice sa sl sc) (.slice aa al ac) zv (.slice ra rl rc) (.slice ma ml mc) T R vin I wc) (hb : Below wc.heap.size wc w5) :
    Given w w5 w.heap.size R (T + 1) T sa aa ra ma sl sc al ac rl rc ml mc S A Rc M lo vin I := by
  have hT := h.p1.tN
  have hR := h.rT
  have hs := h.size
  have h5 := hb.size
  have hg : w5.heap[T + 1]? = some (.cells #[.iface 57 (.pointer (some ⟨T, 0, none⟩)), .slice (some ⟨w.heap.size, 0, none⟩) 8 8, .slice none 0 0, zv, .slice none 0 0, .slice none 0 0] 65 (0, 0)) := (hb.block _ (by omega)).trans h.p1.gr
  have ht : w5.heap[T]? = some (.cells #[.int .i64 lo, .slice sa sl sc, .slice aa al ac] 59 (0, 0)) := (hb.block _ (by omega)).trans h.p1.top
  refine ⟨h.p1.bel.trans (hb.mono h.p1.bel.size), by omega, by omega, by omega, by omega, by omega, by omega, by omega, ?_, ?_, (hb.block _ (by omega)).trans h.rule, by simp [World.cell?, hg], by simp [World.cell?, ht], by simp [World.cell?, ht], by simp [World.cell?, ht], hI.hS, hI.hA, hI.hRc, hI.mlen, hI.mrow, hI.mbd, lo1, lo2⟩
  · intro k hk
    have h1 := h.inX k hk
    have h2 := h.own.lt k hk
    exact ⟨by omega, by omega, by omega, by omega⟩
  · exact h.own.keep fun k hk => hb.block k (h.own.lt k hk)

/-- Whether the source is bad. -/
def badB (ub : Bool) (Bq Zq : List Bool) (s : Nat) : Bool := if ub = true then Zq.getD s false else Bq.getD s false
theorem P2.bad {ub : Bool} {sv av rv mv : Value} (h : P2 w Bq Zq lo sv av zv rv mv T R vin I wc) (hz : zv = (if ub = true then Value.slice (some ⟨w.heap.size + 1, 0, none⟩) 8 8 else .slice none 0 0)) (s : Nat) (hs : s < 8) (W : World) (hb : Below wc.heap.size wc W) :
    Calls Yba.prog 25 #[.pointer (some ⟨T + 1, 0, none⟩), .int .i64 s] W fun e w' => e = .returned (.bool (badB ub Bq Zq s)) ∧ w' = W := by
  have hT := h.p1.tN
  have hR := h.rT
  have hsz := h.size
  have hg : W.heap[T + 1]? = some (.cells #[.iface 57 (.pointer (some ⟨T, 0, none⟩)), .slice (some ⟨w.heap.size, 0, none⟩) 8 8, .slice none 0 0, zv, .slice none 0 0, .slice none 0 0] 65 (0, 0)) := (hb.block _ (by omega)).trans h.p1.gr
  have hbad := h.p1.bad.of_block (hb.block _ (by omega))
  have hbyz := h.p1.byz.of_block (hb.block _ (by omega))
  cases ub with
  | true =>
    subst hz
    exact bad_byz (T + 1) (w.heap.size + 1) s hs _ W (by simp [World.cell?, hg]) (hbyz.cell hs)
  | false =>
    subst hz
    exact bad_plain (T + 1) w.heap.size s hs _ W (by simp [World.cell?, hg]) (by simp [World.cell?, hg]) (hbad.cell hs)
end
end Go.Proofs.Ybulkcjdg
