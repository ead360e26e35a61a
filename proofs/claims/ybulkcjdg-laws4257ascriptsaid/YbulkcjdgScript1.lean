import Derived.Test.YbulkcjdgNext
import Derived.Test.YbulkcjdgSlices
import Derived.Test.YbulkcjdgRefresh
namespace Go.Proofs.Ybulkcjdg
open Go.RowKit
open Go.Deep (blk_alloc_lt blk_alloc_new nblk_alloc blk_setCell_other nblk_setCell)
set_option linter.unusedVariables false
set_option linter.unusedSimpArgs false

/-- The lru and the law's two rows of numbers. -/
structure SI (w0 w : World) (L Mp : Nat) (m : Int) (es : List En) (kv vv : Value) : Prop where
  lru : Lru w0.heap.size w L Mp m es
  hk : OwnI w0.heap.size w kv (es.map (·.k))
  hv : OwnI w0.heap.size w vv (es.map (·.x))
  ne : ∀ b, kv.ownBlock = some b → vv.ownBlock ≠ some b
  len : (es.length : Int) ≤ m
  chg : Chg (fun _ => False) w0 w

theorem own_block {B : Nat} {w : World} {v : Value} {l : List Int} (h : OwnI B w v l) {b : Nat} (hb : v.ownBlock = some b) : ∃ cur, w.heap[b]? = some (.cells cur 3 (0, 0)) := by
  rcases h.2 with ⟨rfl, _⟩ | ⟨g, cap, cur, rfl, _, hg, _⟩
  · cases hb
  · cases hb; exact ⟨cur, hg⟩
theorem own_not_lru {B B' : Nat} {w : World} {v : Value} {l : List Int} {L Mp : Nat} {m : Int} {es : List En} (h : OwnI B w v l) (hl : Lru B' w L Mp m es) {b : Nat} (hb : v.ownBlock = some b) : ¬ LruS L Mp es b := by
  obtain ⟨cur, hg⟩ := own_block h hb
  rintro (rfl | rfl | ⟨x, hx, rfl | rfl⟩)
  · obtain ⟨_, _, _, h1⟩ := hl.root
    rw [hg] at h1; simp at h1
  · obtain ⟨_, _, h1⟩ := hl.map.obj
    rw [hg] at h1; simp at h1
  · obtain ⟨_, _, h1⟩ := hl.node hx
    rw [hg] at h1; simp at h1
  · have h1 := hl.ent x hx
    rw [hg] at h1; simp at h1

/-- The script's operations as they came in. -/
def OpsAt (w : World) (B : Nat) (a : Option Addr) (n : Nat) (f : Nat → Nat × Nat × Int) : Prop :=
  n = 0 ∨ ∃ b o, a = some ⟨b, o, none⟩ ∧ b < B ∧ ∀ q, q < n → w.cell? ⟨b, o + q * 3, none⟩ = some (.int .u8 (f q).1) ∧ w.cell? ⟨b, o + q * 3 + 1, none⟩ = some (.int .u8 (f q).2.1) ∧ w.cell? ⟨b, o + q * 3 + 2, none⟩ = some (.int .i64 (f q).2.2) ∧ (f q).1 ≤ 255 ∧ (f q).2.1 ≤ 255


section
variable {w0 w w' w1 w2 w3 : World} {L Mp : Nat} {m : Int} {es es' l1 l2 : List En} {kv vv : Value} {x : En}
theorem SI.alloc (h : SI w0 w L Mp m es kv vv) (o : Obj) : SI w0 (w.alloc o) L Mp m es kv vv :=
  ⟨h.lru.keep fun k hk => blk_alloc_lt _ _ _ (h.lru.lt k hk), h.hk.keep fun k hk => blk_alloc_lt _ _ _ (h.hk.lt k hk), h.hv.keep fun k hk => blk_alloc_lt _ _ _ (h.hv.lt k hk), h.ne, h.len, h.chg.alloc o⟩
/-- Behind a call that has turned the lru. -/
theorem SI.rows (h : SI w0 w L Mp m es kv vv) (hc : Chg (LruS L Mp es) w w') : OwnI w0.heap.size w' kv (es.map (·.k)) ∧ OwnI w0.heap.size w' vv (es.map (·.x)) ∧ Chg (fun _ => False) w0 w' :=
  ⟨hc.own h.hk fun b hb => own_not_lru h.hk h.lru hb, hc.own h.hv fun b hb => own_not_lru h.hv h.lru hb, h.chg.trans hc h.lru.high⟩
/-- Two new rows beside an lru. -/
theorem SI.two (h : Lru w0.heap.size w L Mp m es) (hc : Chg (fun _ => False) w0 w) {g1 g2 c n1 n2 : Nat} {K V : List Int} (hs : S2 w0.heap.size w w1 g1 g2 c K V) (h1 : n1 = K.length) (h2 : n2 = V.length) (eK : K = es.map (·.k)) (eV : V = es.map (·.x)) (hl : (es.length : Int) ≤ m) :
    SI w0 w1 L Mp m es (.slice (some ⟨g1, 0, none⟩) n1 c) (.slice (some ⟨g2, 0, none⟩) n2 c) := by
  subst h1 h2 eK eV
  refine ⟨h.keep fun k hk => hs.chg.block k (h.lt k hk) (fun f => f), hs.o1, hs.o2, ?_, hl, hc.trans hs.chg (fun _ _ f => f)⟩
  intro b hb hb'
  have := hs.ne
  simp [Value.ownBlock] at hb hb'
  omega
theorem map_at (f : En → Int) : ((l1 ++ x :: l2).map f).getD l1.length 0 = f x ∧ ((l1 ++ x :: l2).map f).take l1.length = l1.map f ∧ ((l1 ++ x :: l2).map f).drop (l1.length + 1) = l2.map f := by
  refine ⟨by simp [List.getD], ?_, ?_⟩
  · simp [List.map_append, List.take_left']
  · have : (l1 ++ x :: l2).map f = (l1.map f ++ [f x]) ++ l2.map f := by simp
    rw [this, List.drop_left' (by simp)]
/-- What index answers. -/
theorem SI.index (h : SI w0 w L Mp m es kv vv) (k : Int) (hm : m ≤ 100) :
    (∃ l1 x l2, es = l1 ++ x :: l2 ∧ x.k = k ∧ Calls Yba.prog 7 #[kv, .int .i64 k] w fun e w' => e = .returned (.int .i64 (l1.length : Nat)) ∧ w' = w) ∨
    (k ∉ es.map (·.k) ∧ Calls Yba.prog 7 #[kv, .int .i64 k] w fun e w' => e = .returned (.int .i64 (-1)) ∧ w' = w) := by
  have hl := h.len
  have hi := index_any h.hk k (by simp only [List.length_map]; omega)
  by_cases hk : k ∈ es.map (·.k)
  · obtain ⟨x, hx, hxk⟩ := List.mem_map.1 hk
    obtain ⟨l1, l2, rfl⟩ := List.append_of_mem hx
    refine .inl ⟨l1, x, l2, rfl, hxk, hi.mono ?_⟩
    rintro e w' ⟨rfl, ⟨i, hil, hik, rfl⟩ | ⟨hn, _⟩⟩
    · have h2 : ((l1 ++ x :: l2).map (·.k))[l1.length]? = some k := by simp [hxk]
      have := (List.getElem?_inj hil h.lru.knd).1 (hik.trans h2.symm)
      rw [this]
      exact ⟨rfl, rfl⟩
    · exact absurd hk hn
  · refine .inr ⟨hk, hi.mono ?_⟩
    rintro e w' ⟨rfl, ⟨i, hil, hik, rfl⟩ | ⟨hn, rfl⟩⟩
    · exact absurd (List.mem_of_getElem? hik) hk
    · exact ⟨rfl, rfl⟩
theorem OwnI.noneCap {B : Nat} {a : Option Addr} {n c : Nat} {l : List Int} (h : OwnI B w (.slice a n c) l) : a = none → n = 0 ∧ c = 0 := by
  intro ha
  rcases h.2 with ⟨h1, h0⟩ | ⟨g, cap, cur, h1, _⟩
  · cases h1; exact ⟨rfl, rfl⟩
  · subst ha; cases h1
/-- 'append([]int{z}, row...)'. -/
theorem frontA {ops : Array Oper} {rest : List Oper} {o : Oper} {a : Act} {Q : Exit → Act → World → Prop} (hgd : o.guard = none) (s x : Operand)
    (ho : o.op = .call { callee := .builtin .append, args := #[s, x], argTypes := #[25, 25] }) {B H n c : Nat} {ao : Option Addr} {K : List Int} (z : Int) (hs : a.eval s = .slice (some ⟨H, 0, none⟩) 1 1) (hH : w.heap.size = H) (hx : a.eval x = .slice ao n c)
    (hv : OwnI B w (.slice ao n c) K) (hn : K.length = n) (hlen : n ≤ 1000) (hB : B ≤ w.heap.size)
    (h : ∀ g cap w', OwnI B w' (.slice (some ⟨g, 0, none⟩) (1 + n) cap) (z :: K) → Chg (fun _ => False) w w' → w.heap.size ≤ g → wpList Yba.prog ops Q rest (a.put o.dst (.slice (some ⟨g, 0, none⟩) (1 + n) cap)) w') :
    wpList Yba.prog ops Q (o :: rest) a (w.alloc (.cells #[.int .i64 z] 3)) := by
  obtain ⟨i0, hi, hz0, hz1, hz2⟩ := info_parts Yba.info3
  subst hH hn
  have hone : OwnI B (w.alloc (.cells #[.int .i64 z] 3)) (.slice (some ⟨w.heap.size, 0, none⟩) 1 1) [z] := ⟨rfl, .inr ⟨w.heap.size, 1, #[.int .i64 z], rfl, hB, blk_alloc_new _ _, Nat.le_refl _, by unfold maxLen; omega, rfl, rfl⟩⟩
  have hsh := hv.shape
  by_cases h0 : K = []
  · subst h0
    refine appS hgd s x ho hs hx hone rfl rfl hv.noneCap (fun ad _ j u hu => by simp at hu) (by simp) fun w' h1 h2 => h _ _ w' h1 (((Chg.refl _ w).alloc _).grown h2 (fun b hb => by cases hb; exact .inr (Nat.le_refl _))) (Nat.le_refl _)
  · have hpos : 0 < K.length := List.length_pos_iff.2 h0
    obtain ⟨_, _, he, hc⟩ := hsh
    obtain ⟨g, rfl, hgl, _, _, hcell⟩ := hc hpos
    cases he
    refine wpList_append_lies _ hgd s x 25 ho B 3 i0 (.int .i64 0) 1 8 Yba.underlying25 hi hz0 hz1 hz2 rfl (by decide) _ 1 [.int .i64 z] hs hone ⟨g, 0, none⟩ K.length c (K.map (Value.int .i64)) hx (by simp) ?_ (ints_oneCell _ _) hpos (by unfold maxLen; omega) (by omega) (by rw [nblk_alloc]; omega) (w.heap.size + 1) (by rw [nblk_alloc]) ?_
    · intro j u hu
      have ht : j < K.length := by simpa using (List.getElem?_eq_some_iff.1 hu).1
      have e : (K.map (Value.int .i64))[j]? = some (.int .i64 (K.getD j 0)) := by simp [ht]
      rw [e] at hu
      rw [Addr.add_lit, Nat.zero_add, ← Option.some.inj hu, ← hcell j ht]
      exact World.cell?_of_block (blk_alloc_lt _ _ _ hgl)
    · intro g' cap w' hown hgrow hat _
      refine h g' cap w' ?_ (((Chg.refl _ w).alloc _).grown hgrow (fun b hb => by cases hb; exact .inr (Nat.le_refl _))) ?_
      · show World.ownsRow _ _ _ _ _ _ _
        have : (z :: K).length = 1 + K.length := by simp; omega
        rw [this]
        exact hown
      · rcases hat with e | e
        · simp [Value.ownBlock] at e; omega
        · omega
/-- A number of a row is set. -/
theorem OwnI.set {B g n cap : Nat} {l : List Int} (h : OwnI B w (.slice (some ⟨g, 0, none⟩) n cap) l) (i : Nat) (hi : i < l.length) (y : Int) : OwnI B (w.setCell ⟨g, i, none⟩ (.int .i64 y)) (.slice (some ⟨g, 0, none⟩) n cap) (l.set i y) := by
  rcases h.2 with ⟨h1, _⟩ | ⟨g', cap', cur, h1, hb, hg, hle, hm, hsz, htk⟩
  · cases h1
  · cases h1
    refine ⟨by simp, .inr ⟨g, cap, cur.set! i (.int .i64 y), by simp, hb, heap_setCell_same _ _ _ _ _ _ hg, by simpa using hle, hm, by simpa using hsz, ?_⟩⟩
    have hlen : (cur.toList.take (l.length * 1)).length = l.length := by rw [htk]; simp
    rw [List.length_set, List.map_set, ← htk]
    simp [Array.set!, List.take_set]
theorem OwnI.fcell {B g n cap : Nat} {l : List Int} (h : OwnI B w (.slice (some ⟨g, 0, none⟩) n cap) l) (i : Nat) : w.frozen? ⟨g, i, none⟩ = false := by
  obtain ⟨cur, hg⟩ := own_block h rfl
  simp [World.frozen?, hg]
@[go_sem] theorem as46t (v : Value) (w : World) : (Instr.typeAssert (.iface 46 v) 20 46 true).run Yba.prog w = .ok (.tuple #[v, .bool true]) w := by kernel_rfl
theorem OwnI.shape2 {B n c : Nat} {a : Option Addr} {l : List Int} (h : OwnI B w (.slice a n c) l) (hl : 0 < l.length) : ∃ g, a = some ⟨g, 0, none⟩ ∧ g < w.heap.size ∧ B ≤ g ∧ l.length ≤ c ∧ ∀ j, j < l.length → w.cell? ⟨g, j, none⟩ = some (.int .i64 (l.getD j 0)) := by
  obtain ⟨_, _, he, hs⟩ := h.shape
  obtain ⟨g, rfl, r⟩ := hs hl
  cases he
  exact ⟨g, rfl, r⟩
theorem SI.drewN (h : SI w0 w L Mp m es kv vv) (n : Nat) : SI w0 (w.drewN n) L Mp m es kv vv :=
  ⟨h.lru.keep fun _ _ => rfl, h.hk.keep fun _ _ => rfl, h.hv.keep fun _ _ => rfl, h.ne, h.len, h.chg.drewN n⟩
/-- A new key ahead of all. -/
theorem SI.front {w4 : World} {E Vb : Nat} {k y : Int} {g g' n cap cap' : Nat} (h2 : Lru w0.heap.size w2 L Mp m (⟨E, Vb, k, y⟩ :: es)) (hw : Chg (fun _ => False) w0 w2) (o3 : OwnI w0.heap.size w3 (.slice (some ⟨g, 0, none⟩) (1 + n) cap) (k :: es.map (·.k))) (hc3 : Chg (fun _ => False) w2 w3)
    (o4 : OwnI w0.heap.size w4 (.slice (some ⟨g', 0, none⟩) (1 + n) cap') (y :: es.map (·.x))) (hc4 : Chg (fun _ => False) w3 w4) (hg : w3.heap.size ≤ g') (hl : (es.length : Int) + 1 ≤ m) :
    SI w0 w4 L Mp m (⟨E, Vb, k, y⟩ :: es) (.slice (some ⟨g, 0, none⟩) (1 + n) cap) (.slice (some ⟨g', 0, none⟩) (1 + n) cap') := by
  have hlt := o3.lt g rfl
  have hc := hc3.trans hc4 (fun _ _ f => f)
  refine ⟨h2.keep fun b hb => hc.block b (h2.lt b hb) (fun f => f), hc4.own o3 (fun _ _ f => f), o4, ?_, by simpa using hl, hw.trans hc (fun _ _ f => f)⟩
  intro b hb hb'
  simp [Value.ownBlock] at hb hb'
  omega
end
end Go.Proofs.Ybulkcjdg
