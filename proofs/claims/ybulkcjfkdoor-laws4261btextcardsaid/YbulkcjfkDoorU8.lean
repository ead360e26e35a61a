import Derived.Test.YbulkcjfkDoorU7
namespace Go.Proofs.YbulkcjfkDoor
open Go.RowKit Go.Deep
set_option linter.unusedVariables false
set_option linter.unusedSimpArgs false

/-- The blocks that the law lays for the field. -/
structure G0 (w : World) (f k q : Nat) (on : Option Nat) (lbl : Int) (pr : Bool) (fN g z d oN wr : ByteArray) : Prop where
  hf : ∃ c fz, w.heap[f]? = some (.cells c 35 fz) ∧ c[0]? = some (.pointer (some ⟨q, 0, none⟩)) ∧ c[1]? = some (.pointer (some ⟨k, 0, none⟩)) ∧ c[2]? = some (.string fN) ∧ c[4]? = some (.bool pr) ∧ c[5]? = some (.pointer (on.map fun o => ⟨o, 0, none⟩)) ∧ c[6]? = some (.string wr) ∧ c[10]? = some (.string d)
  hk : ∃ c fz, w.heap[k]? = some (.cells c 31 fz) ∧ c[0]? = some (.string g) ∧ c[1]? = some (.string z) ∧ c[8]? = some (.pointer none)
  hq : ∃ c fz, w.heap[q]? = some (.cells c 55 fz) ∧ c[2]? = some (.int .i32 lbl)
  ho : ∀ o, on = some o → ∃ c fz, w.heap[o]? = some (.cells c 57 fz) ∧ c[1]? = some (.string oN)
theorem G0.gt {w w' : World} {b f k m q : Nat} {on : Option Nat} {lbl : Int} {pr : Bool} {mN fN g z d oN wr : ByteArray} (h : G0 w f k q on lbl pr fN g z d oN wr) (hK : ∀ j, j < w.heap.size → w'.heap[j]? = w.heap[j]?) (hb : w.heap.size ≤ b) (hm : ∃ c fz, w'.heap[m]? = some (.cells c 68 fz) ∧ c[2]? = some (.string mN)) (hmb : m ≠ b) : Gt w' b f k m q on lbl pr mN fN g z d oN wr := by
  have lt : ∀ {j : Nat} {x : Obj}, w.heap[j]? = some x → j < w.heap.size := fun h => (Array.getElem?_eq_some_iff.1 h).1
  obtain ⟨c, fz, f1, f2⟩ := h.hf
  obtain ⟨c', fz', k1, k2⟩ := h.hk
  obtain ⟨c2, fz2, q1, q2⟩ := h.hq
  have lf := lt f1
  have lk := lt k1
  have lq := lt q1
  refine ⟨⟨c, fz, (hK _ lf).trans f1, f2⟩, by simp only [ne_eq, Option.some.injEq]; omega, ⟨c', fz', (hK _ lk).trans k1, k2⟩, by simp only [ne_eq, Option.some.injEq]; omega, hm, by simp only [ne_eq, Option.some.injEq]; omega, ⟨c2, fz2, (hK _ lq).trans q1, q2⟩, by simp only [ne_eq, Option.some.injEq]; omega, fun o ho => ?_⟩
  obtain ⟨c3, fz3, o1, o2⟩ := h.ho o ho
  have lo := lt o1
  exact ⟨⟨c3, fz3, (hK _ lo).trans o1, o2⟩, by simp only [ne_eq, Option.some.injEq]; omega⟩

def kO (g z : ByteArray) : Obj := .cells #[.string g, .string z, .string { data := #[] }, .string { data := #[] }, .bool false, .bool false, .nilFunc, .string { data := #[] }, .pointer none] 31
def qO (lbl : Int) : Obj := .cells #[.string { data := #[] }, .int .i32 0, .int .i32 lbl, .int .i32 0, .string { data := #[] }, .string { data := #[] }, .bool false, .bool false, .bool false, .int .i32 0, .bool false, .bool false] 55
def fO (q k : Nat) (po : Option Addr) (fN wr d : ByteArray) (pr : Bool) : Obj := .cells #[.pointer (some ⟨q, 0, none⟩), .pointer (some ⟨k, 0, none⟩), .string fN, .string { data := #[] }, .bool pr, .pointer po, .string wr, .bool false, .bool false, .bool false, .string d, .string { data := #[] }, .bool false] 35
theorem laid3 (w : World) (T : Nat) (hT : w.heap.size = T) (k q f : Obj) : (((w.alloc k).alloc q).alloc f).heap.size = T + 3 ∧ Below T w (((w.alloc k).alloc q).alloc f) ∧ (((w.alloc k).alloc q).alloc f).heap[T]? = some k ∧ (((w.alloc k).alloc q).alloc f).heap[T + 1]? = some q ∧ (((w.alloc k).alloc q).alloc f).heap[T + 1 + 1]? = some f := by
  subst hT
  refine ⟨by simp only [nblk_alloc], ?_, ?_, ?_, ?_⟩
  · exact (((Below.refl _ _).alloc (Nat.le_refl _) _).alloc (by rw [nblk_alloc]; omega) _).alloc (by simp only [nblk_alloc]; omega) _
  · rw [blk_alloc_lt _ _ _ (by simp only [nblk_alloc]; omega), blk_alloc_lt _ _ _ (by simp only [nblk_alloc]; omega)]
    exact blk_alloc_new _ _
  · rw [blk_alloc_lt _ _ _ (by simp only [nblk_alloc]; omega)]
    have := blk_alloc_new (w.alloc k) q
    rwa [nblk_alloc] at this
  · have := blk_alloc_new ((w.alloc k).alloc q) f
    rwa [nblk_alloc, nblk_alloc] at this
theorem laid4 (w : World) (T : Nat) (hT : w.heap.size = T) (k q f o : Obj) : ((((w.alloc k).alloc q).alloc f).alloc o).heap.size = T + 4 ∧ Below T w ((((w.alloc k).alloc q).alloc f).alloc o) ∧ ((((w.alloc k).alloc q).alloc f).alloc o).heap[T]? = some k ∧ ((((w.alloc k).alloc q).alloc f).alloc o).heap[T + 1]? = some q ∧ ((((w.alloc k).alloc q).alloc f).alloc o).heap[T + 1 + 1]? = some f ∧ ((((w.alloc k).alloc q).alloc f).alloc o).heap[T + 1 + 1 + 1]? = some o := by
  obtain ⟨a1, a2, a3, a4, a5⟩ := laid3 w T hT k q f
  refine ⟨by rw [nblk_alloc, a1], a2.alloc (by omega) _, ?_, ?_, ?_, ?_⟩
  · rw [blk_alloc_lt _ _ _ (by omega)]; exact a3
  · rw [blk_alloc_lt _ _ _ (by omega)]; exact a4
  · rw [blk_alloc_lt _ _ _ (by omega)]; exact a5
  · have := blk_alloc_new (((w.alloc k).alloc q).alloc f) o
    rwa [a1] at this
theorem getText_len {mN fN g z d oN wr : List UInt8} {rep pr on zn dn : Bool} (h1 : mN.length ≤ 4096) (h2 : fN.length ≤ 4096) (h3 : g.length ≤ 4096) (h4 : z.length ≤ 4096) (h5 : d.length ≤ 4096) (h6 : oN.length ≤ 4096) (h7 : wr.length ≤ 4096) : (getText mN fN g z d oN wr rep pr on zn dn).length ≤ 100000 := by
  unfold getText
  cases rep <;> cases on <;> cases pr <;> cases zn <;> cases dn <;> simp <;> omega
theorem dn_of (d : ByteArray) : ∃ dn : Bool, (dn = false → d.toList = []) ∧ (dn = true → ¬ d.toList = [] ∧ d.toList.isEmpty = false) := by
  cases h : d.toList with
  | nil => exact ⟨false, fun _ => rfl, fun h => by cases h⟩
  | cons a t => exact ⟨true, fun h => (by cases h), fun _ => ⟨by simp, rfl⟩⟩

set_option maxRecDepth 100000 in
set_option maxHeartbeats 8000000 in
theorem law_big (pre mN fN g z d oN wr : ByteArray) (lb : Int) (pr on zz : Bool) (w : World) (b0 : pre.size ≤ 9223372036854775807) (b1 : mN.size ≤ 9223372036854775807) (b2 : fN.size ≤ 9223372036854775807) (b3 : g.size ≤ 9223372036854775807) (b4 : z.size ≤ 9223372036854775807) (b5 : d.size ≤ 9223372036854775807) (b6 : oN.size ≤ 9223372036854775807) (b7 : wr.size ≤ 9223372036854775807)
    (h : ¬ (pre.size ≤ 4096 ∧ mN.size ≤ 4096 ∧ fN.size ≤ 4096 ∧ g.size ≤ 4096 ∧ z.size ≤ 4096 ∧ d.size ≤ 4096 ∧ oN.size ≤ 4096 ∧ wr.size ≤ 4096)) :
    Calls Ybad.prog 4 #[.string pre, .string mN, .string fN, .string g, .string z, .string d, .string oN, .string wr, .int .u8 lb, .bool pr, .bool on, .bool zz] w fun e w' => e = .returned (.bool true) ∧ Below w.heap.size w w' := by
  by_cases h0 : (4096 : Int) < pre.size
  · go_enter Ybad.func4, Ybad.ntmps4
    go_wp2_with fail
    go_ret
    exact ⟨rfl, Below.refl _ _⟩
  · by_cases h1 : (4096 : Int) < mN.size
    · go_enter Ybad.func4, Ybad.ntmps4
      go_wp2_with fail
      go_ret
      exact ⟨rfl, Below.refl _ _⟩
    · by_cases h2 : (4096 : Int) < fN.size
      · go_enter Ybad.func4, Ybad.ntmps4
        go_wp2_with fail
        go_ret
        exact ⟨rfl, Below.refl _ _⟩
      · by_cases h3 : (4096 : Int) < g.size
        · go_enter Ybad.func4, Ybad.ntmps4
          go_wp2_with fail
          go_ret
          exact ⟨rfl, Below.refl _ _⟩
        · by_cases h4 : (4096 : Int) < z.size
          · go_enter Ybad.func4, Ybad.ntmps4
            go_wp2_with fail
            go_ret
            exact ⟨rfl, Below.refl _ _⟩
          · by_cases h5 : (4096 : Int) < d.size
            · go_enter Ybad.func4, Ybad.ntmps4
              go_wp2_with fail
              go_ret
              exact ⟨rfl, Below.refl _ _⟩
            · by_cases h6 : (4096 : Int) < oN.size
              · go_enter Ybad.func4, Ybad.ntmps4
                go_wp2_with fail
                go_ret
                exact ⟨rfl, Below.refl _ _⟩
              · have h7 : (4096 : Int) < wr.size := by omega
                go_enter Ybad.func4, Ybad.ntmps4
                go_wp2_with fail
                go_ret
                exact ⟨rfl, Below.refl _ _⟩
end Go.Proofs.YbulkcjfkDoor
