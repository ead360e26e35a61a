import Derived.Test.YbulkcjdgChg
import Derived.Deep.LoopGhost
import Derived.OwnWalk
namespace Go.Proofs.Ybulkcjdg
open Go.RowKit
set_option linter.unusedVariables false
set_option linter.unusedSimpArgs false

theorem sl_hidden {p : Prop} (h : p) : Hid p := h
/-- How an own row looks, also where it is empty. -/
theorem OwnI.shape {B : Nat} {w : World} {v : Value} {l : List Int} (h : OwnI B w v l) :
    ∃ a c, v = .slice a l.length c ∧ (0 < l.length → ∃ g, a = some ⟨g, 0, none⟩ ∧ g < w.heap.size ∧ B ≤ g ∧ l.length ≤ c ∧ ∀ j, j < l.length → w.cell? ⟨g, j, none⟩ = some (.int .i64 (l.getD j 0))) := by
  have h' := h
  rcases h.2 with ⟨rfl, h0⟩ | ⟨g, cap, cur, rfl, hb, hg, hle, r⟩
  · exact ⟨none, 0, by rw [h0], fun hl => by omega⟩
  · exact ⟨_, _, rfl, fun _ => ⟨g, rfl, h'.lt g rfl, hb, hle, fun j hj => h'.cell j hj⟩⟩
theorem getD_some {l : List Int} {j : Nat} (h : j < l.length) : l[j]? = some (l.getD j 0) := by simp [h]

set_option maxRecDepth 100000 in
set_option maxHeartbeats 1000000 in
theorem index_any {B : Nat} {w : World} {kv : Value} {K : List Int} (h : OwnI B w kv K) (k : Int) (hn : K.length ≤ 1000) :
    Calls Yba.prog 7 #[kv, .int .i64 k] w fun e w' => w' = w ∧ ((∃ i : Nat, i < K.length ∧ K[i]? = some k ∧ e = .returned (.int .i64 i)) ∨ (k ∉ K ∧ e = .returned (.int .i64 (-1)))) := by
  obtain ⟨a, c, rfl, hs⟩ := h.shape
  obtain ⟨n, hnn⟩ : ∃ n, n = K.length := ⟨_, rfl⟩
  rw [← hnn] at hs hn ⊢
  have HN := sl_hidden hnn
  have HS := sl_hidden hs
  clear h hs hnn
  go_enter Yba.func7, Yba.ntmps7
  go_wp2_with fail
  go_loopg [5] n (fun g vv wr => ∃ j : Nat, g + j = n ∧ vv = .int .i64 j ∧ wr = w ∧ Hid (∀ t, t < j → K[t]? ≠ some k))
  case atStart => exact ⟨0, rfl, rfl, rfl, fun t ht => by omega⟩
  case round =>
    obtain ⟨j, hgj, rfl, hwr, HP⟩ := hrel
    have hwr' := hwr.symm
    subst hwr'
    by_cases hj : j < n
    · obtain ⟨g, rfl, _, _, _, hc⟩ := HS.out (by omega)
      have hcj := hc j hj
      have hat : Hid (K[j]? = some (K.getD j 0)) := sl_hidden (getD_some (by rw [← HN.out]; exact hj))
      obtain ⟨x, hx⟩ : ∃ x, x = K.getD j 0 := ⟨_, rfl⟩
      rw [← hx] at hcj hat
      clear hc hx
      by_cases hxk : x = k
      · have hd : decide (x = k) = true := by simpa using hxk
        go_wp2_with fail
        go_ret
        refine ⟨rfl, .inl ⟨j, hj, by rw [hat.out, hxk], rfl⟩⟩
      · have hd : decide (x = k) = false := by simpa using hxk
        go_wp2_with fail
        go_roundg (n - (j + 1))
        case measure => omega
        case rel =>
          refine ⟨j + 1, by omega, by go_num, rfl, fun t ht => ?_⟩
          rcases Nat.lt_or_ge t j with h | h
          · exact HP.out t h
          · obtain rfl : t = j := by omega
            rw [hat.out]
            intro e
            exact hxk (Option.some.inj e)
    · obtain rfl : j = n := by omega
      go_wp2_with fail
      go_ret
      refine ⟨rfl, .inr ⟨fun hm => ?_, rfl⟩⟩
      obtain ⟨t, ht, e⟩ := List.getElem_of_mem hm
      exact HP.out t (by rw [HN.out]; exact ht) (by rw [List.getElem?_eq_getElem ht, e])

/-- 'append(row, x...)' within the capacity. -/
theorem appS {ops : Array Oper} {rest : List Oper} {o : Oper} {a : Act} {Q : Exit → Act → World → Prop} (hgd : o.guard = none) (s x : Operand)
    (ho : o.op = .call { callee := .builtin .append, args := #[s, x], argTypes := #[25, 25] }) {B : Nat} {w : World} {g k cap m c : Nat} {A N : List Int} {ao : Option Addr} (hs : a.eval s = .slice (some ⟨g, 0, none⟩) k cap) (hx : a.eval x = .slice ao m c)
    (hown : OwnI B w (.slice (some ⟨g, 0, none⟩) k cap) A) (hk : A.length = k) (hm : N.length = m) (hnone : ao = none → m = 0 ∧ c = 0) (hc : ∀ ad, ao = some ad → ∀ j u, (N.map (Value.int .i64))[j]? = some u → w.cell? (ad.add j) = some u) (b1 : k + m ≤ cap)
    (h : ∀ w', OwnI B w' (.slice (some ⟨g, 0, none⟩) (k + m) cap) (A ++ N) → w.grownBy w' (some g) → wpList Yba.prog ops Q rest (a.put o.dst (.slice (some ⟨g, 0, none⟩) (k + m) cap)) w') : wpList Yba.prog ops Q (o :: rest) a w := by
  obtain ⟨i0, hi, hz0, hz1, hz2⟩ := info_parts Yba.info3
  subst hk hm
  refine wpList_append_fits_any w hgd s x 25 ho B 3 i0 1 Yba.underlying25 hi hz1 g A.length cap (A.map (Value.int .i64)) hs hown ao N.length c (N.map (Value.int .i64)) hx (by simp) hnone hc (ints_oneCell _ _) b1 ?_
  intro w' h1 h2
  refine h w' ?_ h2
  show World.ownsRow _ _ _ _ _ _ _
  simpa using h1
/-- 'make([]int, 0, n)'. -/
theorem makS {ops : Array Oper} {rest : List Oper} {o : Oper} {a : Act} {Q : Exit → Act → World → Prop} (hgd : o.guard = none) (l c : Operand) (ho : o.op = Op.makeSlice 25 l c) {B : Nat} {w : World} {n : Nat} (hl : a.eval l = .int .i64 0) (hc : a.eval c = .int .i64 n) (hn : n ≤ 1000) (hB : B ≤ w.heap.size)
    (h : ∀ w', OwnI B w' (.slice (some ⟨w.heap.size, 0, none⟩) 0 n) [] → w.grownBy w' none → w.heap.size < w'.heap.size → wpList Yba.prog ops Q rest (a.put o.dst (.slice (some ⟨w.heap.size, 0, none⟩) 0 n)) w') : wpList Yba.prog ops Q (o :: rest) a w := by
  obtain ⟨i0, hi, hz0, hz1, hz2⟩ := info_parts Yba.info3
  refine wpList_make_own w hgd l c 25 ho B 3 i0 (.int .i64 0) 1 Yba.underlying25 hi hz0 hz1 .i64 .i64 n n hl hc rfl (by rw [hz2]; omega) (by unfold maxLen; omega) hB ?_
  intro w' h1 h2
  exact h w' h1 h2 (h1.lt _ rfl).2

/-- Two new rows. -/
structure S2 (B : Nat) (w0 w : World) (g1 g2 cap : Nat) (A1 A2 : List Int) : Prop where
  o1 : OwnI B w (.slice (some ⟨g1, 0, none⟩) A1.length cap) A1
  o2 : OwnI B w (.slice (some ⟨g2, 0, none⟩) A2.length cap) A2
  ne : g1 < g2
  ge : w0.heap.size ≤ g1
  chg : Chg (fun _ => False) w0 w
theorem S2.start {B : Nat} {w0 w1 w2 : World} {n : Nat} (h1 : OwnI B w1 (.slice (some ⟨w0.heap.size, 0, none⟩) 0 n) []) (c1 : w0.grownBy w1 none) (hs : w0.heap.size < w1.heap.size) (h2 : OwnI B w2 (.slice (some ⟨w1.heap.size, 0, none⟩) 0 n) []) (c2 : w1.grownBy w2 none) : S2 B w0 w2 w0.heap.size w1.heap.size n [] [] :=
  ⟨World.ownsRow.kept h1 c2 (.inr (by simp [Value.ownBlock])), h2, hs, Nat.le_refl _, (((Chg.refl (fun _ => False) w0).grown c1 (fun k hk => by cases hk)).grown c2 (fun k hk => by cases hk))⟩
theorem S2.alloc {B : Nat} {w0 w : World} {g1 g2 cap : Nat} {A1 A2 : List Int} (h : S2 B w0 w g1 g2 cap A1 A2) (o : Obj) : S2 B w0 (w.alloc o) g1 g2 cap A1 A2 := ⟨World.ownsRow.alloc h.o1 o, World.ownsRow.alloc h.o2 o, h.ne, h.ge, h.chg.alloc o⟩
/-- Where what is appended lies. -/
theorem src {w : World} {b o : Nat} {N : List Int} {ao : Option Addr} (hcell : ∀ t, t < N.length → w.cell? ⟨b, o + t, none⟩ = some (.int .i64 (N.getD t 0))) (hao : 0 < N.length → ao = some ⟨b, o, none⟩) :
    ∀ ad, ao = some ad → ∀ t u, (N.map (Value.int .i64))[t]? = some u → w.cell? (ad.add t) = some u := by
  intro ad had t u hu
  have ht : t < N.length := by simpa using (List.getElem?_eq_some_iff.1 hu).1
  rw [hao (by omega)] at had
  obtain rfl := Option.some.inj had
  rw [Addr.add_lit, hcell t ht]
  have e : (N.map (Value.int .i64))[t]? = some (.int .i64 (N.getD t 0)) := by simp [ht]
  rw [e] at hu
  exact hu
section
variable {ops : Array Oper} {rest : List Oper} {o : Oper} {a : Act} {Q : Exit → Act → World → Prop} {B : Nat} {w0 w : World} {g1 g2 cap k m c : Nat} {A1 A2 : List Int} {ao : Option Addr}
theorem S2.app1 (h : S2 B w0 w g1 g2 cap A1 A2) (N : List Int) (hgd : o.guard = none) (s x : Operand) (ho : o.op = .call { callee := .builtin .append, args := #[s, x], argTypes := #[25, 25] }) (hs : a.eval s = .slice (some ⟨g1, 0, none⟩) k cap) (hk : A1.length = k) (hx : a.eval x = .slice ao m c)
    (hm : N.length = m) (hnone : ao = none → m = 0 ∧ c = 0) (b o' : Nat) (hcell : ∀ t, t < N.length → w.cell? ⟨b, o' + t, none⟩ = some (.int .i64 (N.getD t 0))) (hao : 0 < N.length → ao = some ⟨b, o', none⟩) (b1 : k + m ≤ cap)
    (hK : ∀ w', S2 B w0 w' g1 g2 cap (A1 ++ N) A2 → wpList Yba.prog ops Q rest (a.put o.dst (.slice (some ⟨g1, 0, none⟩) (k + m) cap)) w') : wpList Yba.prog ops Q (o :: rest) a w := by
  subst hk
  refine appS hgd s x ho hs hx h.o1 rfl hm hnone (src hcell hao) b1 fun w' h1 h2 => hK w' ⟨by rw [List.length_append, hm]; exact h1, World.ownsRow.kept h.o2 h2 (.inr (by have := h.ne; simp [Value.ownBlock]; omega)), h.ne, h.ge, h.chg.grown h2 (fun b hb => by cases hb; exact .inr h.ge)⟩
theorem S2.app2 (h : S2 B w0 w g1 g2 cap A1 A2) (N : List Int) (hgd : o.guard = none) (s x : Operand) (ho : o.op = .call { callee := .builtin .append, args := #[s, x], argTypes := #[25, 25] }) (hs : a.eval s = .slice (some ⟨g2, 0, none⟩) k cap) (hk : A2.length = k) (hx : a.eval x = .slice ao m c)
    (hm : N.length = m) (hnone : ao = none → m = 0 ∧ c = 0) (b o' : Nat) (hcell : ∀ t, t < N.length → w.cell? ⟨b, o' + t, none⟩ = some (.int .i64 (N.getD t 0))) (hao : 0 < N.length → ao = some ⟨b, o', none⟩) (b1 : k + m ≤ cap)
    (hK : ∀ w', S2 B w0 w' g1 g2 cap A1 (A2 ++ N) → wpList Yba.prog ops Q rest (a.put o.dst (.slice (some ⟨g2, 0, none⟩) (k + m) cap)) w') : wpList Yba.prog ops Q (o :: rest) a w := by
  subst hk
  have hge := h.ge
  have hne := h.ne
  refine appS hgd s x ho hs hx h.o2 rfl hm hnone (src hcell hao) b1 fun w' h1 h2 => hK w' ⟨World.ownsRow.kept h.o1 h2 (.inr (by simp [Value.ownBlock]; omega)), by rw [List.length_append, hm]; exact h1, h.ne, h.ge, h.chg.grown h2 (fun b hb => by cases hb; exact .inr (by omega))⟩
end
/-- The cells of the old row, where nothing old has turned. -/
theorem old_take {w0 w : World} {g n i : Nat} {K : List Int} (hc : ∀ j, j < n → w0.cell? ⟨g, j, none⟩ = some (.int .i64 (K.getD j 0))) (hch : Chg (fun _ => False) w0 w) (hn : n = K.length) (hi : i ≤ n) :
    (K.take i).length = i ∧ ∀ t, t < (K.take i).length → w.cell? ⟨g, 0 + t, none⟩ = some (.int .i64 ((K.take i).getD t 0)) := by
  have hl : (K.take i).length = i := by simp; omega
  refine ⟨hl, fun t ht => ?_⟩
  rw [hl] at ht
  rw [Nat.zero_add]
  refine hch.cell (p := ⟨g, t, none⟩) ?_ (fun h => h)
  rw [hc t (by omega)]
  simp [ht]
theorem old_drop {w0 w : World} {g n i : Nat} {K : List Int} (hc : ∀ j, j < n → w0.cell? ⟨g, j, none⟩ = some (.int .i64 (K.getD j 0))) (hch : Chg (fun _ => False) w0 w) (hn : n = K.length) (hi : i ≤ n) :
    (K.drop i).length = n - i ∧ ∀ t, t < (K.drop i).length → w.cell? ⟨g, i + t, none⟩ = some (.int .i64 ((K.drop i).getD t 0)) := by
  have hl : (K.drop i).length = n - i := by simp; omega
  refine ⟨hl, fun t ht => ?_⟩
  rw [hl] at ht
  refine hch.cell (p := ⟨g, i + t, none⟩) ?_ (fun h => h)
  rw [hc (i + t) (by omega)]
  simp [List.getD]

set_option maxRecDepth 100000 in
set_option maxHeartbeats 1000000 in
theorem drop_any {B : Nat} {w : World} {kv vv : Value} {K V : List Int} (hk : OwnI B w kv K) (hv : OwnI B w vv V) (hl : V.length = K.length) (i : Nat) (hi : i < K.length) (hn : K.length ≤ 1000) (hB : B ≤ w.heap.size) :
    Calls Yba.prog 11 #[kv, vv, .int .i64 i] w fun e w' => ∃ g1 g2 c n1 n2, e = .returned (.tuple #[.slice (some ⟨g1, 0, none⟩) n1 c, .slice (some ⟨g2, 0, none⟩) n2 c]) ∧
      n1 = (K.take i ++ K.drop (i + 1)).length ∧ n2 = (V.take i ++ V.drop (i + 1)).length ∧ S2 B w w' g1 g2 c (K.take i ++ K.drop (i + 1)) (V.take i ++ V.drop (i + 1)) := by
  obtain ⟨gk, ck, rfl, hbk, hgk⟩ := hk.form (by omega)
  obtain ⟨gv, cv, rfl, hbv, hgv⟩ := hv.form (by omega)
  obtain ⟨_, _, hks, hks'⟩ := hk.shape
  obtain ⟨_, _, hvs, hvs'⟩ := hv.shape
  obtain ⟨_, hka, _, _, hkc, hkcell⟩ := hks' (by omega)
  obtain ⟨_, hva, _, _, hvc, hvcell⟩ := hvs' (by omega)
  cases hks; cases hvs; cases hka; cases hva
  obtain ⟨n, hnn⟩ : ∃ n, n = K.length := ⟨_, rfl⟩
  have hnv : n = V.length := by omega
  rw [hl] at hvc hvcell ⊢
  rw [← hnn] at hi hn hkc hvc hkcell hvcell ⊢
  have HK1 := fun (w' : World) (h : Chg (fun _ => False) w w') => sl_hidden (old_take (i := i) hkcell h hnn (by omega))
  have HK2 := fun (w' : World) (h : Chg (fun _ => False) w w') => sl_hidden (old_drop (i := i + 1) hkcell h hnn (by omega))
  have HV1 := fun (w' : World) (h : Chg (fun _ => False) w w') => sl_hidden (old_take (i := i) hvcell h hnv (by omega))
  have HV2 := fun (w' : World) (h : Chg (fun _ => False) w w') => sl_hidden (old_drop (i := i + 1) hvcell h hnv (by omega))
  clear hk hv hks' hvs' hkcell hvcell hnn hl hnv
  have tok1 : True := trivial
  have tok2 : True := trivial
  have t1 : True := trivial
  have t2 : True := trivial
  have t3 : True := trivial
  have t4 : True := trivial
  go_enter Yba.func11, Yba.ntmps11
  go_wp2_with (first
    | (at_make; have _t := tok1; refine makS rfl _ _ rfl (n := n) rfl rfl hn hB ?_; intro w1 ho1 hg1 hs1; have O1 := sl_hidden ho1; have G1 := sl_hidden hg1; clear tok1 ho1 hg1)
    | (at_make; have _t := tok2; refine makS rfl _ _ rfl (n := n) rfl rfl hn (Nat.le_trans hB (Nat.le_of_lt hs1)) ?_; intro w2 ho2 hg2 hs2; have H2 := sl_hidden (S2.start O1.out G1.out hs1 ho2 hg2); clear tok2 ho2 hg2 O1 G1)
    | (at_builtin; have _t := t1; refine S2.app1 H2.out (K.take i) rfl _ _ rfl rfl rfl rfl (HK1 _ H2.out.chg).out.1 (by simp) gk 0 (HK1 _ H2.out.chg).out.2 (by intro _; rfl) (by omega) ?_; intro w3 h3; have H3 := sl_hidden h3; clear t1 h3)
    | (at_builtin; have _t := t2; refine S2.app2 H3.out (V.take i) rfl _ _ rfl rfl rfl rfl (HV1 _ H3.out.chg).out.1 (by simp) gv 0 (HV1 _ H3.out.chg).out.2 (by intro _; rfl) (by omega) ?_; intro w4 h4; have H4 := sl_hidden h4; clear t2 h4)
    | (at_builtin; have _t := t3; go_loud (refine S2.app1 H4.out (K.drop (i + 1)) rfl _ _ rfl rfl (HK1 _ H4.out.chg).out.1 rfl (HK2 _ H4.out.chg).out.1 (fun h => by split at h <;> cases h) gk (i + 1) (HK2 _ H4.out.chg).out.2 (fun hh => if_neg (by have := (HK2 _ H4.out.chg).out.1; omega)) (by omega) ?_); intro w5 h5; have H5 := sl_hidden h5; clear t3 h5)
    | (at_builtin; have _t := t4; go_loud (refine S2.app2 H5.out (V.drop (i + 1)) rfl _ _ rfl rfl (HV1 _ H5.out.chg).out.1 rfl (HV2 _ H5.out.chg).out.1 (fun h => by split at h <;> cases h) gv (i + 1) (HV2 _ H5.out.chg).out.2 (fun hh => if_neg (by have := (HV2 _ H5.out.chg).out.1; omega)) (by omega) ?_); intro w6 h6; have H6 := sl_hidden h6; clear t4 h6))
  all_goals
    go_ret2
    refine ⟨_, _, _, _, _, rfl, ?_, ?_, H6.out⟩
    · have h1 := (HK1 _ H6.out.chg).out.1
      have h2 := (HK2 _ H6.out.chg).out.1
      simp only [List.length_take, List.length_drop] at h1 h2
      omega
    · have h1 := (HV1 _ H6.out.chg).out.1
      have h2 := (HV2 _ H6.out.chg).out.1
      simp only [List.length_take, List.length_drop] at h1 h2
      omega

theorem one_cell (w' : World) (z : Int) (t : Nat) (ht : t < [z].length) : (w'.alloc (.cells #[.int .i64 z] 3)).cell? ⟨w'.heap.size, 0 + t, none⟩ = some (.int .i64 ([z].getD t 0)) := by
  obtain rfl : t = 0 := by simpa using ht
  have h := Go.Deep.blk_alloc_new w' (.cells #[.int .i64 z] 3)
  generalize w'.alloc (.cells #[.int .i64 z] 3) = w9 at h ⊢
  simp only [World.cell?]
  rw [h]
  rfl

set_option maxRecDepth 100000 in
set_option maxHeartbeats 1000000 in
theorem move_row {B : Nat} {w : World} {kv vv : Value} {K V : List Int} (hk : OwnI B w kv K) (hv : OwnI B w vv V) (hl : V.length = K.length) (i : Nat) (hi : i < K.length) (hn : K.length ≤ 1000) (hB : B ≤ w.heap.size) :
    Calls Yba.prog 9 #[kv, vv, .int .i64 i] w fun e w' => ∃ g1 g2 c n1 n2, e = .returned (.tuple #[.slice (some ⟨g1, 0, none⟩) n1 c, .slice (some ⟨g2, 0, none⟩) n2 c]) ∧
      n1 = (K.getD i 0 :: (K.take i ++ K.drop (i + 1))).length ∧ n2 = (V.getD i 0 :: (V.take i ++ V.drop (i + 1))).length ∧ S2 B w w' g1 g2 c (K.getD i 0 :: (K.take i ++ K.drop (i + 1))) (V.getD i 0 :: (V.take i ++ V.drop (i + 1))) := by
  obtain ⟨gk, ck, rfl, hbk, hgk⟩ := hk.form (by omega)
  obtain ⟨gv, cv, rfl, hbv, hgv⟩ := hv.form (by omega)
  obtain ⟨_, _, hks, hks'⟩ := hk.shape
  obtain ⟨_, _, hvs, hvs'⟩ := hv.shape
  obtain ⟨_, hka, _, _, hkc, hkcell⟩ := hks' (by omega)
  obtain ⟨_, hva, _, _, hvc, hvcell⟩ := hvs' (by omega)
  cases hks; cases hvs; cases hka; cases hva
  obtain ⟨n, hnn⟩ : ∃ n, n = K.length := ⟨_, rfl⟩
  have hnv : n = V.length := by omega
  rw [hl] at hvc hvcell ⊢
  rw [← hnn] at hi hn hkc hvc hkcell hvcell ⊢
  have HK1 := fun (w' : World) (h : Chg (fun _ => False) w w') => sl_hidden (old_take (i := i) hkcell h hnn (by omega))
  have HK2 := fun (w' : World) (h : Chg (fun _ => False) w w') => sl_hidden (old_drop (i := i + 1) hkcell h hnn (by omega))
  have HV1 := fun (w' : World) (h : Chg (fun _ => False) w w') => sl_hidden (old_take (i := i) hvcell h hnv (by omega))
  have HV2 := fun (w' : World) (h : Chg (fun _ => False) w w') => sl_hidden (old_drop (i := i + 1) hvcell h hnv (by omega))
  have hki := hkcell i hi
  have hvi := hvcell i hi
  obtain ⟨x, hx⟩ : ∃ x, x = K.getD i 0 := ⟨_, rfl⟩
  obtain ⟨y, hy⟩ : ∃ y, y = V.getD i 0 := ⟨_, rfl⟩
  rw [← hx] at hki ⊢
  rw [← hy] at hvi ⊢
  clear hk hv hks' hvs' hkcell hvcell hnn hl hnv hx hy
  have ONE := sl_hidden one_cell
  have tok1 : True := trivial
  have tok2 : True := trivial
  have s1 : True := trivial
  have s2 : True := trivial
  have t1 : True := trivial
  have t2 : True := trivial
  have t3 : True := trivial
  have t4 : True := trivial
  go_enter Yba.func9, Yba.ntmps9
  go_wp2_with (first
    | (at_make; have _t := tok1; refine makS rfl _ _ rfl (n := n) rfl rfl hn hB ?_; intro w1 ho1 hg1 hs1; have O1 := sl_hidden ho1; have G1 := sl_hidden hg1; clear tok1 ho1 hg1)
    | (at_make; have _t := tok2; refine makS rfl _ _ rfl (n := n) rfl rfl hn (Nat.le_trans hB (Nat.le_of_lt hs1)) ?_; intro w2 ho2 hg2 hs2; have H2 := sl_hidden (S2.start O1.out G1.out hs1 ho2 hg2); have hki2 := H2.out.chg.cell hki (fun h => h); clear tok2 ho2 hg2 O1 G1)
    | (at_builtin; have _t := s1; refine S2.app1 (H2.out.alloc _) [x] rfl _ _ rfl rfl rfl rfl rfl (by simp) w2.heap.size 0 (ONE.out w2 x) (by intro _; rfl) (by omega) ?_; intro w2b h2; have H2b := sl_hidden h2; have hvi2 := H2b.out.chg.cell hvi (fun h => h); clear s1 h2 hki2)
    | (at_builtin; have _t := s2; refine S2.app2 (H2b.out.alloc _) [y] rfl _ _ rfl rfl rfl rfl rfl (by simp) w2b.heap.size 0 (ONE.out w2b y) (by intro _; rfl) (by omega) ?_; intro w2c h2; have H2c := sl_hidden h2; clear s2 h2 hvi2)
    | (at_builtin; have _t := t1; refine S2.app1 H2c.out (K.take i) rfl _ _ rfl rfl rfl rfl (HK1 _ H2c.out.chg).out.1 (by simp) gk 0 (HK1 _ H2c.out.chg).out.2 (by intro _; rfl) (by omega) ?_; intro w3 h3; have H3 := sl_hidden h3; clear t1 h3)
    | (at_builtin; have _t := t2; refine S2.app2 H3.out (V.take i) rfl _ _ rfl rfl rfl rfl (HV1 _ H3.out.chg).out.1 (by simp) gv 0 (HV1 _ H3.out.chg).out.2 (by intro _; rfl) (by omega) ?_; intro w4 h4; have H4 := sl_hidden h4; clear t2 h4)
    | (at_builtin; have _t := t3; go_loud (refine S2.app1 H4.out (K.drop (i + 1)) rfl _ _ rfl rfl (by have := (HK1 _ H4.out.chg).out.1; simp only [List.length_append, List.length_cons, List.length_nil]; omega) rfl (HK2 _ H4.out.chg).out.1 (fun h => by split at h <;> cases h) gk (i + 1) (HK2 _ H4.out.chg).out.2 (fun hh => if_neg (by have := (HK2 _ H4.out.chg).out.1; omega)) (by omega) ?_); intro w5 h5; have H5 := sl_hidden h5; clear t3 h5)
    | (at_builtin; have _t := t4; go_loud (refine S2.app2 H5.out (V.drop (i + 1)) rfl _ _ rfl rfl (by have := (HV1 _ H5.out.chg).out.1; simp only [List.length_append, List.length_cons, List.length_nil]; omega) rfl (HV2 _ H5.out.chg).out.1 (fun h => by split at h <;> cases h) gv (i + 1) (HV2 _ H5.out.chg).out.2 (fun hh => if_neg (by have := (HV2 _ H5.out.chg).out.1; omega)) (by omega) ?_); intro w6 h6; have H6 := sl_hidden h6; clear t4 h6))
  all_goals
    go_ret2
    refine ⟨_, _, _, _, _, rfl, ?_, ?_, H6.out⟩
    · have h1 := (HK1 _ H6.out.chg).out.1
      have h2 := (HK2 _ H6.out.chg).out.1
      simp only [List.length_take, List.length_drop] at h1 h2
      (try simp only [List.length_cons, List.length_append, List.length_take, List.length_drop])
      omega
    · have h1 := (HV1 _ H6.out.chg).out.1
      have h2 := (HV2 _ H6.out.chg).out.1
      simp only [List.length_take, List.length_drop] at h1 h2
      (try simp only [List.length_cons, List.length_append, List.length_take, List.length_drop])
      omega
end Go.Proofs.Ybulkcjdg
