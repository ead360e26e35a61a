import Derived.Test.YbulkcjdgProg
import Derived.Test.YbulkcjdgMem
import Derived.Test.YbulkcjdgTPlain
import Derived.Deep.QuietTactic
import Derived.BigQuiet
namespace Go.Proofs.Ybulkcjdg
open Go.RowKit
set_option linter.unusedVariables false

theorem Yba.info3 : (Yba.prog.info? 3).map (fun i => (i.zero, i.size, i.bytes)) = some (some (.int .i64 0), 1, 8) := by kernel_rfl
theorem Yba.info25 : (Yba.prog.info? 25).map (fun i => (i.zero, i.size, i.bytes)) = some (some (.slice none 0 0), 1, 24) := by kernel_rfl

/-- The cell of a one-element row that has just been laid. -/
theorem one_new (w : World) (x : Value) (t : TypeId) : ∀ j u, ([x] : List Value)[j]? = some u → (w.alloc (.cells #[x] t)).cell? ((⟨w.heap.size, 0, none⟩ : Addr).add j) = some u :=
  World.news_of_block (cs := #[x]) (t := t) (fr := (0, 0)) (by rw [Go.Deep.blk_alloc_new])

/-- The slice v owns, from block B on, the ints l. -/
def OwnI (B : Nat) (w : World) (v : Value) (l : List Int) : Prop := w.ownsRow B 3 1 v l.length (l.map (Value.int .i64))
theorem OwnI.nil (B : Nat) (w : World) : OwnI B w (.slice none 0 0) [] := World.ownsRow_nil _ _ _ _
theorem OwnI.below {B : Nat} {w : World} {v : Value} {l : List Int} (h : OwnI B w v l) : ∀ k, v.ownBlock = some k → B ≤ k := fun k hk => (World.ownsRow.lt h k hk).1
theorem OwnI.lt {B : Nat} {w : World} {v : Value} {l : List Int} (h : OwnI B w v l) : ∀ k, v.ownBlock = some k → k < w.heap.size := fun k hk => (World.ownsRow.lt h k hk).2
theorem OwnI.form {B : Nat} {w : World} {v : Value} {l : List Int} (h : OwnI B w v l) (hl : 0 < l.length) : ∃ g cap, v = .slice (some ⟨g, 0, none⟩) l.length cap ∧ B ≤ g ∧ g < w.heap.size := World.ownsRow.form h hl
theorem OwnI.cell {B : Nat} {w : World} {g cap n : Nat} {l : List Int} (h : OwnI B w (.slice (some ⟨g, 0, none⟩) n cap) l) (j : Nat) (hj : j < l.length) : w.cell? ⟨g, j, none⟩ = some (.int .i64 (l.getD j 0)) := by
  have hn : n = l.length := by
    rcases h.2 with ⟨h1, _⟩ | ⟨_, _, _, h1, _⟩ <;> cases h1
    rfl
  subst hn
  rw [World.ownsRow.cellAt h j (by omega)]
  simp [hj]
theorem OwnI.keep {B : Nat} {w w' : World} {v : Value} {l : List Int} (h : OwnI B w v l) (hk : ∀ k, v.ownBlock = some k → w'.heap[k]? = w.heap[k]?) : OwnI B w' v l := by
  refine ⟨h.1, ?_⟩
  rcases h.2 with h2 | ⟨g, cap, cur, rfl, hb, hg, r⟩
  · exact .inl h2
  · exact .inr ⟨g, cap, cur, rfl, hb, (hk g rfl).trans hg, r⟩

/-- 'path = append(path, x)': the one element lies in a block of its own already. -/
theorem append1 {ops : Array Oper} {rest : List Oper} {o : Oper} {a : Act} {Q : Exit → Act → World → Prop} (hgd : o.guard = none) (s x : Operand)
    (ho : o.op = .call { callee := .builtin .append, args := #[s, x], argTypes := #[25, 25] }) {B : Nat} {w0 w : World} {v0 v : Value} {l : List Int} (n : Int) (hs : a.eval s = v) (hx : a.eval x = .slice (some ⟨w.heap.size, 0, none⟩) 1 1)
    (hown : OwnI B w v l) (hM : Mv w0 v0 w v) (hlen : l.length ≤ 1000000) (hB : B ≤ w0.heap.size)
    (h : ∀ g cap w', OwnI B w' (.slice (some ⟨g, 0, none⟩) (l.length + 1) cap) (l ++ [n]) → Mv w0 v0 w' (.slice (some ⟨g, 0, none⟩) (l.length + 1) cap) → wpList Yba.prog ops Q rest (a.put o.dst (.slice (some ⟨g, 0, none⟩) (l.length + 1) cap)) w') :
    wpList Yba.prog ops Q (o :: rest) a (w.alloc (.cells #[.int .i64 n] 3)) := by
  obtain ⟨i0, hi, hz0, hz1, hz2⟩ := info_parts Yba.info3
  have hsz := hM.grown.size
  refine wpList_append_lies _ hgd s x 25 ho B 3 i0 (.int .i64 0) 1 8 Yba.underlying25 hi hz0 hz1 hz2 rfl (by decide) v l.length (l.map (Value.int .i64)) hs (World.ownsRow.alloc hown _) ⟨w.heap.size, 0, none⟩ 1 1 [.int .i64 n] hx rfl (one_new _ _ _) (by simp [Value.oneCell']) (by decide) (by unfold maxLen; omega) (by omega) (by simp; omega) (w.heap.size + 1) (by simp) ?_
  intro g cap w' hown' hgrow hat _
  refine h g cap w' ?_ (Mv.lies (hM.alloc _) hgrow hat (by simp))
  show World.ownsRow _ _ _ _ _ _ _
  simpa using hown'

theorem own_eq {B : Nat} {w : World} {v : Value} {l l' : List Int} (h : OwnI B w v l) (e : l = l') : OwnI B w v l' := e ▸ h

set_option maxRecDepth 100000 in
set_option maxHeartbeats 1000000 in
theorem route_YT (B : Nat) (v0 : Value) (q sl sc al ac : Nat) (lo src : Int) (w0 w : World) (hlo1 : -128 ≤ lo) (hlo2 : lo ≤ 127) (hq40 : q ≤ 100) (hB : Below B w0 w) (hBs : B ≤ w.heap.size) (hown : OwnI B w v0 [])
    (sb so : Nat) (a : Option Addr) (n c : Nat) (zs : List Int) (hq : q < sl) (hsb : sb < B) (hn : zs.length = n) (hcell : w0.cell? ⟨sb, so + q, none⟩ = some (.slice a n c)) (hrow : RowAt w0 B a n (fun j => .int .i8 (zs.getD j 0))) (hzs : ∀ x ∈ zs, -128 ≤ x ∧ x ≤ 127) (hn63 : n ≤ 9223372036854775807)
    (ab ao : Nat) (hal : q < al) (hab : ab < B) (hacell : w0.cell? ⟨ab, ao + q, none⟩ = some (.bool true)) (res : List Int) (HRES : Hid (res = (src :: zs.take 1024) ++ [lo + q])) :
    Calls Yba.prog 18 #[v0, .int .i64 lo, .slice (some ⟨sb, so, none⟩) sl sc, .slice (some ⟨ab, ao, none⟩) al ac, .int .i64 src, .int .i64 (lo + q)] w fun e w' => ∃ v, e = .returned v ∧ OwnI B w' v res ∧ Mv w v0 w' v := by
  have hd : (lo + (q : Int)) - lo = q := by omega
  have HN : Hid (zs.length = n) := hn
  have HZ : Hid (∀ x ∈ zs, -128 ≤ x ∧ x ≤ 127) := hzs
  have HR : Hid (RowAt w0 B a n (fun j => .int .i8 (zs.getD j 0))) := hrow
  have hmm : ∃ m : Nat, m ≤ 1024 ∧ m ≤ n ∧ Hid (zs.take m = zs.take 1024) ∧ (m = 1024 ∧ 1024 < n ∨ m = n ∧ n ≤ 1024) := by
    by_cases hbig : 1024 < n
    · exact ⟨1024, by omega, by omega, rfl, .inl ⟨rfl, hbig⟩⟩
    · exact ⟨n, by omega, by omega, show zs.take n = zs.take 1024 by rw [List.take_of_length_le (by omega), List.take_of_length_le (by omega)], .inr ⟨rfl, by omega⟩⟩
  obtain ⟨m, hm1, hm2, HT, hm⟩ := hmm
  clear hn hzs hrow
  have tok1 : True := trivial
  rcases hm with ⟨rfl, hbig⟩ | ⟨rfl, hbig⟩
  have hdn : decide ((1024 : Int) < (n : Int)) = true := by simp; omega
  rotate_left
  have hdn : decide ((1024 : Int) < (m : Int)) = false := by simp; omega
  all_goals
    go_enter Yba.func18, Yba.ntmps18
    go_wp2_with (at_builtin; have _t := tok1; refine append1 rfl (.tmp 17) (.tmp 19) rfl src rfl rfl hown (Mv.refl w v0) (by simp) hBs ?_; intro g cap w1 hown1 hM1; have hB1 := hM1.below hB hBs hown.below; simp only [List.nil_append, List.length_nil, Nat.zero_add] at hown1 hM1; have hs1 := (hB1.cell (p := ⟨sb, so + q, none⟩) hsb).trans hcell; clear tok1)
  · go_loopw [0, 16] (fun v j wr => ∃ (k g cap : Nat) (l : List Int), k ≤ m ∧ j = .int .i64 k ∧ v = .slice (some ⟨g, 0, none⟩) l.length cap ∧ OwnI B wr (.slice (some ⟨g, 0, none⟩) l.length cap) l ∧ Mv w v0 wr (.slice (some ⟨g, 0, none⟩) l.length cap) ∧ l.length ≤ 1025 ∧ Hid (l = src :: zs.take k)) (fun _ j _ => m - (intOf j).toNat)
    case atStart => exact ⟨0, g, cap, [src], by omega, rfl, rfl, hown1, hM1, by simp, by simp [Hid]⟩
    case round =>
      obtain ⟨k, g', cap', l, hk, rfl, rfl, hownr, hMr, hll, HL⟩ := hrel
      clear hown1 hM1 hs1 hB1
      have hBr := hMr.below hB hBs hown.below
      by_cases hkm : k < m
      · rcases HR.out with h0 | ⟨b, o, rfl, hb, hc⟩
        · omega
        have hck : wr.cell? ⟨b, o + k, none⟩ = some (.int .i8 (zs.getD k 0)) := (hBr.cell (p := ⟨b, o + k, none⟩) hb).trans (hc k (by omega))
        have hkl : k < zs.length := by rw [HN.out]; omega
        obtain ⟨x, hx⟩ : ∃ x, x = zs.getD k 0 := ⟨_, rfl⟩
        rw [← hx] at hck
        have hxb : -128 ≤ x ∧ x ≤ 127 := HZ.out x (by rw [hx]; simp [hkl])
        obtain ⟨hx1, hx2⟩ := hxb
        have HX : Hid (l ++ [x] = src :: zs.take (k + 1)) := by
          show l ++ [x] = src :: zs.take (k + 1)
          rw [HL.out, hx, List.take_succ_eq_append_getElem hkl]; simp [hkl]
        have hlx : l.length ≤ 1024 := by rw [HL.out]; simp; omega
        clear hx hkl
        go_wp2_with (at_builtin; refine append1 rfl (.tmp 45) (.tmp 51) rfl x rfl rfl hownr hMr (by omega) hBs ?_; intro g9 cap9 w9 hown9 hM9)
        go_roundw
        case rel => exact ⟨k + 1, g9, cap9, l ++ [x], by omega, by go_num, by rw [List.length_append]; rfl, by rw [List.length_append]; exact hown9, by rw [List.length_append]; exact hM9, by simp; omega, HX⟩
        case measure => simp [intOf]; omega
      · have HL9 : Hid (l = src :: zs.take 1024) := by
          show l = src :: zs.take 1024
          rw [HL.out, ← HT.out, show k = m by omega]
        have hac := (hBr.cell (p := ⟨ab, ao + q, none⟩) hab).trans hacell
        go_wp2_with (at_builtin; refine append1 rfl (.tmp 67) (.tmp 69) rfl (lo + q) rfl rfl hownr hMr (by omega) hBs ?_; intro g8 cap8 w8 hown8 hM8)
        go_ret
        exact ⟨_, rfl, own_eq hown8 (by rw [HRES.out]; rw [HL9.out]), hM8⟩
  · go_loopw [0, 16] (fun v j wr => ∃ (k g cap : Nat) (l : List Int), k ≤ 1024 ∧ j = .int .i64 k ∧ v = .slice (some ⟨g, 0, none⟩) l.length cap ∧ OwnI B wr (.slice (some ⟨g, 0, none⟩) l.length cap) l ∧ Mv w v0 wr (.slice (some ⟨g, 0, none⟩) l.length cap) ∧ l.length ≤ 1025 ∧ Hid (l = src :: zs.take k)) (fun _ j _ => 1024 - (intOf j).toNat)
    case atStart => exact ⟨0, g, cap, [src], by omega, rfl, rfl, hown1, hM1, by simp, by simp [Hid]⟩
    case round =>
      obtain ⟨k, g', cap', l, hk, rfl, rfl, hownr, hMr, hll, HL⟩ := hrel
      clear hown1 hM1 hs1 hB1
      have hBr := hMr.below hB hBs hown.below
      by_cases hkm : k < 1024
      · rcases HR.out with h0 | ⟨b, o, rfl, hb, hc⟩
        · omega
        have hck : wr.cell? ⟨b, o + k, none⟩ = some (.int .i8 (zs.getD k 0)) := (hBr.cell (p := ⟨b, o + k, none⟩) hb).trans (hc k (by omega))
        have hkl : k < zs.length := by rw [HN.out]; omega
        obtain ⟨x, hx⟩ : ∃ x, x = zs.getD k 0 := ⟨_, rfl⟩
        rw [← hx] at hck
        have hxb : -128 ≤ x ∧ x ≤ 127 := HZ.out x (by rw [hx]; simp [hkl])
        obtain ⟨hx1, hx2⟩ := hxb
        have HX : Hid (l ++ [x] = src :: zs.take (k + 1)) := by
          show l ++ [x] = src :: zs.take (k + 1)
          rw [HL.out, hx, List.take_succ_eq_append_getElem hkl]; simp [hkl]
        have hlx : l.length ≤ 1024 := by rw [HL.out]; simp; omega
        clear hx hkl
        go_wp2_with (at_builtin; refine append1 rfl (.tmp 45) (.tmp 51) rfl x rfl rfl hownr hMr (by omega) hBs ?_; intro g9 cap9 w9 hown9 hM9)
        go_roundw
        case rel => exact ⟨k + 1, g9, cap9, l ++ [x], by omega, by go_num, by rw [List.length_append]; rfl, by rw [List.length_append]; exact hown9, by rw [List.length_append]; exact hM9, by simp; omega, HX⟩
        case measure => simp [intOf]; omega
      · have HL9 : Hid (l = src :: zs.take 1024) := by
          show l = src :: zs.take 1024
          rw [HL.out, show k = 1024 by omega]
        have hac := (hBr.cell (p := ⟨ab, ao + q, none⟩) hab).trans hacell
        go_wp2_with (at_builtin; refine append1 rfl (.tmp 67) (.tmp 69) rfl (lo + q) rfl rfl hownr hMr (by omega) hBs ?_; intro g8 cap8 w8 hown8 hM8)
        go_ret
        exact ⟨_, rfl, own_eq hown8 (by rw [HRES.out]; rw [HL9.out]), hM8⟩

set_option maxRecDepth 100000 in
set_option maxHeartbeats 1000000 in
theorem route_YF (B : Nat) (v0 : Value) (q sl sc al ac : Nat) (lo src : Int) (w0 w : World) (hlo1 : -128 ≤ lo) (hlo2 : lo ≤ 127) (hq40 : q ≤ 100) (hB : Below B w0 w) (hBs : B ≤ w.heap.size) (hown : OwnI B w v0 [])
    (sb so : Nat) (a : Option Addr) (n c : Nat) (zs : List Int) (hq : q < sl) (hsb : sb < B) (hn : zs.length = n) (hcell : w0.cell? ⟨sb, so + q, none⟩ = some (.slice a n c)) (hrow : RowAt w0 B a n (fun j => .int .i8 (zs.getD j 0))) (hzs : ∀ x ∈ zs, -128 ≤ x ∧ x ≤ 127) (hn63 : n ≤ 9223372036854775807)
    (ab ao : Nat) (hal : q < al) (hab : ab < B) (hacell : w0.cell? ⟨ab, ao + q, none⟩ = some (.bool false)) (res : List Int) (HRES : Hid (res = (src :: zs.take 1024))) :
    Calls Yba.prog 18 #[v0, .int .i64 lo, .slice (some ⟨sb, so, none⟩) sl sc, .slice (some ⟨ab, ao, none⟩) al ac, .int .i64 src, .int .i64 (lo + q)] w fun e w' => ∃ v, e = .returned v ∧ OwnI B w' v res ∧ Mv w v0 w' v := by
  have hd : (lo + (q : Int)) - lo = q := by omega
  have HN : Hid (zs.length = n) := hn
  have HZ : Hid (∀ x ∈ zs, -128 ≤ x ∧ x ≤ 127) := hzs
  have HR : Hid (RowAt w0 B a n (fun j => .int .i8 (zs.getD j 0))) := hrow
  have hmm : ∃ m : Nat, m ≤ 1024 ∧ m ≤ n ∧ Hid (zs.take m = zs.take 1024) ∧ (m = 1024 ∧ 1024 < n ∨ m = n ∧ n ≤ 1024) := by
    by_cases hbig : 1024 < n
    · exact ⟨1024, by omega, by omega, rfl, .inl ⟨rfl, hbig⟩⟩
    · exact ⟨n, by omega, by omega, show zs.take n = zs.take 1024 by rw [List.take_of_length_le (by omega), List.take_of_length_le (by omega)], .inr ⟨rfl, by omega⟩⟩
  obtain ⟨m, hm1, hm2, HT, hm⟩ := hmm
  clear hn hzs hrow
  have tok1 : True := trivial
  rcases hm with ⟨rfl, hbig⟩ | ⟨rfl, hbig⟩
  have hdn : decide ((1024 : Int) < (n : Int)) = true := by simp; omega
  rotate_left
  have hdn : decide ((1024 : Int) < (m : Int)) = false := by simp; omega
  all_goals
    go_enter Yba.func18, Yba.ntmps18
    go_wp2_with (at_builtin; have _t := tok1; refine append1 rfl (.tmp 17) (.tmp 19) rfl src rfl rfl hown (Mv.refl w v0) (by simp) hBs ?_; intro g cap w1 hown1 hM1; have hB1 := hM1.below hB hBs hown.below; simp only [List.nil_append, List.length_nil, Nat.zero_add] at hown1 hM1; have hs1 := (hB1.cell (p := ⟨sb, so + q, none⟩) hsb).trans hcell; clear tok1)
  · go_loopw [0, 16] (fun v j wr => ∃ (k g cap : Nat) (l : List Int), k ≤ m ∧ j = .int .i64 k ∧ v = .slice (some ⟨g, 0, none⟩) l.length cap ∧ OwnI B wr (.slice (some ⟨g, 0, none⟩) l.length cap) l ∧ Mv w v0 wr (.slice (some ⟨g, 0, none⟩) l.length cap) ∧ l.length ≤ 1025 ∧ Hid (l = src :: zs.take k)) (fun _ j _ => m - (intOf j).toNat)
    case atStart => exact ⟨0, g, cap, [src], by omega, rfl, rfl, hown1, hM1, by simp, by simp [Hid]⟩
    case round =>
      obtain ⟨k, g', cap', l, hk, rfl, rfl, hownr, hMr, hll, HL⟩ := hrel
      clear hown1 hM1 hs1 hB1
      have hBr := hMr.below hB hBs hown.below
      by_cases hkm : k < m
      · rcases HR.out with h0 | ⟨b, o, rfl, hb, hc⟩
        · omega
        have hck : wr.cell? ⟨b, o + k, none⟩ = some (.int .i8 (zs.getD k 0)) := (hBr.cell (p := ⟨b, o + k, none⟩) hb).trans (hc k (by omega))
        have hkl : k < zs.length := by rw [HN.out]; omega
        obtain ⟨x, hx⟩ : ∃ x, x = zs.getD k 0 := ⟨_, rfl⟩
        rw [← hx] at hck
        have hxb : -128 ≤ x ∧ x ≤ 127 := HZ.out x (by rw [hx]; simp [hkl])
        obtain ⟨hx1, hx2⟩ := hxb
        have HX : Hid (l ++ [x] = src :: zs.take (k + 1)) := by
          show l ++ [x] = src :: zs.take (k + 1)
          rw [HL.out, hx, List.take_succ_eq_append_getElem hkl]; simp [hkl]
        have hlx : l.length ≤ 1024 := by rw [HL.out]; simp; omega
        clear hx hkl
        go_wp2_with (at_builtin; refine append1 rfl (.tmp 45) (.tmp 51) rfl x rfl rfl hownr hMr (by omega) hBs ?_; intro g9 cap9 w9 hown9 hM9)
        go_roundw
        case rel => exact ⟨k + 1, g9, cap9, l ++ [x], by omega, by go_num, by rw [List.length_append]; rfl, by rw [List.length_append]; exact hown9, by rw [List.length_append]; exact hM9, by simp; omega, HX⟩
        case measure => simp [intOf]; omega
      · have HL9 : Hid (l = src :: zs.take 1024) := by
          show l = src :: zs.take 1024
          rw [HL.out, ← HT.out, show k = m by omega]
        have hac := (hBr.cell (p := ⟨ab, ao + q, none⟩) hab).trans hacell
        go_wp2
        go_ret
        exact ⟨_, rfl, own_eq hownr (by rw [HRES.out]; rw [HL9.out]), hMr⟩
  · go_loopw [0, 16] (fun v j wr => ∃ (k g cap : Nat) (l : List Int), k ≤ 1024 ∧ j = .int .i64 k ∧ v = .slice (some ⟨g, 0, none⟩) l.length cap ∧ OwnI B wr (.slice (some ⟨g, 0, none⟩) l.length cap) l ∧ Mv w v0 wr (.slice (some ⟨g, 0, none⟩) l.length cap) ∧ l.length ≤ 1025 ∧ Hid (l = src :: zs.take k)) (fun _ j _ => 1024 - (intOf j).toNat)
    case atStart => exact ⟨0, g, cap, [src], by omega, rfl, rfl, hown1, hM1, by simp, by simp [Hid]⟩
    case round =>
      obtain ⟨k, g', cap', l, hk, rfl, rfl, hownr, hMr, hll, HL⟩ := hrel
      clear hown1 hM1 hs1 hB1
      have hBr := hMr.below hB hBs hown.below
      by_cases hkm : k < 1024
      · rcases HR.out with h0 | ⟨b, o, rfl, hb, hc⟩
        · omega
        have hck : wr.cell? ⟨b, o + k, none⟩ = some (.int .i8 (zs.getD k 0)) := (hBr.cell (p := ⟨b, o + k, none⟩) hb).trans (hc k (by omega))
        have hkl : k < zs.length := by rw [HN.out]; omega
        obtain ⟨x, hx⟩ : ∃ x, x = zs.getD k 0 := ⟨_, rfl⟩
        rw [← hx] at hck
        have hxb : -128 ≤ x ∧ x ≤ 127 := HZ.out x (by rw [hx]; simp [hkl])
        obtain ⟨hx1, hx2⟩ := hxb
        have HX : Hid (l ++ [x] = src :: zs.take (k + 1)) := by
          show l ++ [x] = src :: zs.take (k + 1)
          rw [HL.out, hx, List.take_succ_eq_append_getElem hkl]; simp [hkl]
        have hlx : l.length ≤ 1024 := by rw [HL.out]; simp; omega
        clear hx hkl
        go_wp2_with (at_builtin; refine append1 rfl (.tmp 45) (.tmp 51) rfl x rfl rfl hownr hMr (by omega) hBs ?_; intro g9 cap9 w9 hown9 hM9)
        go_roundw
        case rel => exact ⟨k + 1, g9, cap9, l ++ [x], by omega, by go_num, by rw [List.length_append]; rfl, by rw [List.length_append]; exact hown9, by rw [List.length_append]; exact hM9, by simp; omega, HX⟩
        case measure => simp [intOf]; omega
      · have HL9 : Hid (l = src :: zs.take 1024) := by
          show l = src :: zs.take 1024
          rw [HL.out, show k = 1024 by omega]
        have hac := (hBr.cell (p := ⟨ab, ao + q, none⟩) hab).trans hacell
        go_wp2
        go_ret
        exact ⟨_, rfl, own_eq hownr (by rw [HRES.out]; rw [HL9.out]), hMr⟩

set_option maxRecDepth 100000 in
set_option maxHeartbeats 1000000 in
theorem route_YN (B : Nat) (v0 : Value) (q sl sc al ac : Nat) (lo src : Int) (w0 w : World) (hlo1 : -128 ≤ lo) (hlo2 : lo ≤ 127) (hq40 : q ≤ 100) (hB : Below B w0 w) (hBs : B ≤ w.heap.size) (hown : OwnI B w v0 [])
    (sb so : Nat) (a : Option Addr) (n c : Nat) (zs : List Int) (hq : q < sl) (hsb : sb < B) (hn : zs.length = n) (hcell : w0.cell? ⟨sb, so + q, none⟩ = some (.slice a n c)) (hrow : RowAt w0 B a n (fun j => .int .i8 (zs.getD j 0))) (hzs : ∀ x ∈ zs, -128 ≤ x ∧ x ≤ 127) (hn63 : n ≤ 9223372036854775807)
    (aa : Option Addr) (hal : al ≤ q) (res : List Int) (HRES : Hid (res = (src :: zs.take 1024))) :
    Calls Yba.prog 18 #[v0, .int .i64 lo, .slice (some ⟨sb, so, none⟩) sl sc, .slice aa al ac, .int .i64 src, .int .i64 (lo + q)] w fun e w' => ∃ v, e = .returned v ∧ OwnI B w' v res ∧ Mv w v0 w' v := by
  have hd : (lo + (q : Int)) - lo = q := by omega
  have hdal : decide ((q : Int) < (al : Int)) = false := by simp; omega
  have HN : Hid (zs.length = n) := hn
  have HZ : Hid (∀ x ∈ zs, -128 ≤ x ∧ x ≤ 127) := hzs
  have HR : Hid (RowAt w0 B a n (fun j => .int .i8 (zs.getD j 0))) := hrow
  have hmm : ∃ m : Nat, m ≤ 1024 ∧ m ≤ n ∧ Hid (zs.take m = zs.take 1024) ∧ (m = 1024 ∧ 1024 < n ∨ m = n ∧ n ≤ 1024) := by
    by_cases hbig : 1024 < n
    · exact ⟨1024, by omega, by omega, rfl, .inl ⟨rfl, hbig⟩⟩
    · exact ⟨n, by omega, by omega, show zs.take n = zs.take 1024 by rw [List.take_of_length_le (by omega), List.take_of_length_le (by omega)], .inr ⟨rfl, by omega⟩⟩
  obtain ⟨m, hm1, hm2, HT, hm⟩ := hmm
  clear hn hzs hrow
  have tok1 : True := trivial
  rcases hm with ⟨rfl, hbig⟩ | ⟨rfl, hbig⟩
  have hdn : decide ((1024 : Int) < (n : Int)) = true := by simp; omega
  rotate_left
  have hdn : decide ((1024 : Int) < (m : Int)) = false := by simp; omega
  all_goals
    go_enter Yba.func18, Yba.ntmps18
    go_wp2_with (at_builtin; have _t := tok1; refine append1 rfl (.tmp 17) (.tmp 19) rfl src rfl rfl hown (Mv.refl w v0) (by simp) hBs ?_; intro g cap w1 hown1 hM1; have hB1 := hM1.below hB hBs hown.below; simp only [List.nil_append, List.length_nil, Nat.zero_add] at hown1 hM1; have hs1 := (hB1.cell (p := ⟨sb, so + q, none⟩) hsb).trans hcell; clear tok1)
  · go_loopw [0, 16] (fun v j wr => ∃ (k g cap : Nat) (l : List Int), k ≤ m ∧ j = .int .i64 k ∧ v = .slice (some ⟨g, 0, none⟩) l.length cap ∧ OwnI B wr (.slice (some ⟨g, 0, none⟩) l.length cap) l ∧ Mv w v0 wr (.slice (some ⟨g, 0, none⟩) l.length cap) ∧ l.length ≤ 1025 ∧ Hid (l = src :: zs.take k)) (fun _ j _ => m - (intOf j).toNat)
    case atStart => exact ⟨0, g, cap, [src], by omega, rfl, rfl, hown1, hM1, by simp, by simp [Hid]⟩
    case round =>
      obtain ⟨k, g', cap', l, hk, rfl, rfl, hownr, hMr, hll, HL⟩ := hrel
      clear hown1 hM1 hs1 hB1
      have hBr := hMr.below hB hBs hown.below
      by_cases hkm : k < m
      · rcases HR.out with h0 | ⟨b, o, rfl, hb, hc⟩
        · omega
        have hck : wr.cell? ⟨b, o + k, none⟩ = some (.int .i8 (zs.getD k 0)) := (hBr.cell (p := ⟨b, o + k, none⟩) hb).trans (hc k (by omega))
        have hkl : k < zs.length := by rw [HN.out]; omega
        obtain ⟨x, hx⟩ : ∃ x, x = zs.getD k 0 := ⟨_, rfl⟩
        rw [← hx] at hck
        have hxb : -128 ≤ x ∧ x ≤ 127 := HZ.out x (by rw [hx]; simp [hkl])
        obtain ⟨hx1, hx2⟩ := hxb
        have HX : Hid (l ++ [x] = src :: zs.take (k + 1)) := by
          show l ++ [x] = src :: zs.take (k + 1)
          rw [HL.out, hx, List.take_succ_eq_append_getElem hkl]; simp [hkl]
        have hlx : l.length ≤ 1024 := by rw [HL.out]; simp; omega
        clear hx hkl
        go_wp2_with (at_builtin; refine append1 rfl (.tmp 45) (.tmp 51) rfl x rfl rfl hownr hMr (by omega) hBs ?_; intro g9 cap9 w9 hown9 hM9)
        go_roundw
        case rel => exact ⟨k + 1, g9, cap9, l ++ [x], by omega, by go_num, by rw [List.length_append]; rfl, by rw [List.length_append]; exact hown9, by rw [List.length_append]; exact hM9, by simp; omega, HX⟩
        case measure => simp [intOf]; omega
      · have HL9 : Hid (l = src :: zs.take 1024) := by
          show l = src :: zs.take 1024
          rw [HL.out, ← HT.out, show k = m by omega]
        go_wp2
        go_ret
        exact ⟨_, rfl, own_eq hownr (by rw [HRES.out]; rw [HL9.out]), hMr⟩
  · go_loopw [0, 16] (fun v j wr => ∃ (k g cap : Nat) (l : List Int), k ≤ 1024 ∧ j = .int .i64 k ∧ v = .slice (some ⟨g, 0, none⟩) l.length cap ∧ OwnI B wr (.slice (some ⟨g, 0, none⟩) l.length cap) l ∧ Mv w v0 wr (.slice (some ⟨g, 0, none⟩) l.length cap) ∧ l.length ≤ 1025 ∧ Hid (l = src :: zs.take k)) (fun _ j _ => 1024 - (intOf j).toNat)
    case atStart => exact ⟨0, g, cap, [src], by omega, rfl, rfl, hown1, hM1, by simp, by simp [Hid]⟩
    case round =>
      obtain ⟨k, g', cap', l, hk, rfl, rfl, hownr, hMr, hll, HL⟩ := hrel
      clear hown1 hM1 hs1 hB1
      have hBr := hMr.below hB hBs hown.below
      by_cases hkm : k < 1024
      · rcases HR.out with h0 | ⟨b, o, rfl, hb, hc⟩
        · omega
        have hck : wr.cell? ⟨b, o + k, none⟩ = some (.int .i8 (zs.getD k 0)) := (hBr.cell (p := ⟨b, o + k, none⟩) hb).trans (hc k (by omega))
        have hkl : k < zs.length := by rw [HN.out]; omega
        obtain ⟨x, hx⟩ : ∃ x, x = zs.getD k 0 := ⟨_, rfl⟩
        rw [← hx] at hck
        have hxb : -128 ≤ x ∧ x ≤ 127 := HZ.out x (by rw [hx]; simp [hkl])
        obtain ⟨hx1, hx2⟩ := hxb
        have HX : Hid (l ++ [x] = src :: zs.take (k + 1)) := by
          show l ++ [x] = src :: zs.take (k + 1)
          rw [HL.out, hx, List.take_succ_eq_append_getElem hkl]; simp [hkl]
        have hlx : l.length ≤ 1024 := by rw [HL.out]; simp; omega
        clear hx hkl
        go_wp2_with (at_builtin; refine append1 rfl (.tmp 45) (.tmp 51) rfl x rfl rfl hownr hMr (by omega) hBs ?_; intro g9 cap9 w9 hown9 hM9)
        go_roundw
        case rel => exact ⟨k + 1, g9, cap9, l ++ [x], by omega, by go_num, by rw [List.length_append]; rfl, by rw [List.length_append]; exact hown9, by rw [List.length_append]; exact hM9, by simp; omega, HX⟩
        case measure => simp [intOf]; omega
      · have HL9 : Hid (l = src :: zs.take 1024) := by
          show l = src :: zs.take 1024
          rw [HL.out, show k = 1024 by omega]
        go_wp2
        go_ret
        exact ⟨_, rfl, own_eq hownr (by rw [HRES.out]; rw [HL9.out]), hMr⟩

set_option maxRecDepth 100000 in
set_option maxHeartbeats 1000000 in
theorem route_NT (B : Nat) (v0 : Value) (q sl sc al ac : Nat) (lo src : Int) (w0 w : World) (hlo1 : -128 ≤ lo) (hlo2 : lo ≤ 127) (hq40 : q ≤ 100) (hB : Below B w0 w) (hBs : B ≤ w.heap.size) (hown : OwnI B w v0 [])
    (sa : Option Addr) (hq : sl ≤ q)
    (ab ao : Nat) (hal : q < al) (hab : ab < B) (hacell : w0.cell? ⟨ab, ao + q, none⟩ = some (.bool true)) (res : List Int) (HRES : Hid (res = [src] ++ [lo + q])) :
    Calls Yba.prog 18 #[v0, .int .i64 lo, .slice sa sl sc, .slice (some ⟨ab, ao, none⟩) al ac, .int .i64 src, .int .i64 (lo + q)] w fun e w' => ∃ v, e = .returned v ∧ OwnI B w' v res ∧ Mv w v0 w' v := by
  have hd : (lo + (q : Int)) - lo = q := by omega
  have hdsl : decide ((q : Int) < (sl : Int)) = false := by simp; omega
  have tok1 : True := trivial
  have hl1 : ([src] : List Int).length ≤ 1000000 := by simp
  go_enter Yba.func18, Yba.ntmps18
  go_wp2_with (first | (at_builtin; have _t := tok1; refine append1 rfl (.tmp 17) (.tmp 19) rfl src rfl rfl hown (Mv.refl w v0) (by simp) hBs ?_; intro g cap w1 hown1 hM1; have hB1 := hM1.below hB hBs hown.below; simp only [List.nil_append, List.length_nil, Nat.zero_add] at hown1 hM1; have hac := (hB1.cell (p := ⟨ab, ao + q, none⟩) hab).trans hacell; clear tok1) | (at_builtin; refine append1 (l := [src]) rfl (.tmp 67) (.tmp 69) rfl (lo + q) rfl rfl hown1 hM1 hl1 hBs ?_; intro g8 cap8 w8 hown8 hM8))
  go_ret
  exact ⟨_, rfl, own_eq hown8 (by rw [HRES.out]), hM8⟩

set_option maxRecDepth 100000 in
set_option maxHeartbeats 1000000 in
theorem route_NF (B : Nat) (v0 : Value) (q sl sc al ac : Nat) (lo src : Int) (w0 w : World) (hlo1 : -128 ≤ lo) (hlo2 : lo ≤ 127) (hq40 : q ≤ 100) (hB : Below B w0 w) (hBs : B ≤ w.heap.size) (hown : OwnI B w v0 [])
    (sa : Option Addr) (hq : sl ≤ q)
    (ab ao : Nat) (hal : q < al) (hab : ab < B) (hacell : w0.cell? ⟨ab, ao + q, none⟩ = some (.bool false)) (res : List Int) (HRES : Hid (res = [src])) :
    Calls Yba.prog 18 #[v0, .int .i64 lo, .slice sa sl sc, .slice (some ⟨ab, ao, none⟩) al ac, .int .i64 src, .int .i64 (lo + q)] w fun e w' => ∃ v, e = .returned v ∧ OwnI B w' v res ∧ Mv w v0 w' v := by
  have hd : (lo + (q : Int)) - lo = q := by omega
  have hdsl : decide ((q : Int) < (sl : Int)) = false := by simp; omega
  have tok1 : True := trivial
  go_enter Yba.func18, Yba.ntmps18
  go_wp2_with (at_builtin; have _t := tok1; refine append1 rfl (.tmp 17) (.tmp 19) rfl src rfl rfl hown (Mv.refl w v0) (by simp) hBs ?_; intro g cap w1 hown1 hM1; have hB1 := hM1.below hB hBs hown.below; simp only [List.nil_append, List.length_nil, Nat.zero_add] at hown1 hM1; have hac := (hB1.cell (p := ⟨ab, ao + q, none⟩) hab).trans hacell; clear tok1)
  go_ret
  exact ⟨_, rfl, own_eq hown1 (by rw [HRES.out]), hM1⟩

set_option maxRecDepth 100000 in
set_option maxHeartbeats 1000000 in
theorem route_NN (B : Nat) (v0 : Value) (q sl sc al ac : Nat) (lo src : Int) (w0 w : World) (hlo1 : -128 ≤ lo) (hlo2 : lo ≤ 127) (hq40 : q ≤ 100) (hB : Below B w0 w) (hBs : B ≤ w.heap.size) (hown : OwnI B w v0 [])
    (sa : Option Addr) (hq : sl ≤ q)
    (aa : Option Addr) (hal : al ≤ q) (res : List Int) (HRES : Hid (res = [src])) :
    Calls Yba.prog 18 #[v0, .int .i64 lo, .slice sa sl sc, .slice aa al ac, .int .i64 src, .int .i64 (lo + q)] w fun e w' => ∃ v, e = .returned v ∧ OwnI B w' v res ∧ Mv w v0 w' v := by
  have hd : (lo + (q : Int)) - lo = q := by omega
  have hdal : decide ((q : Int) < (al : Int)) = false := by simp; omega
  have hdsl : decide ((q : Int) < (sl : Int)) = false := by simp; omega
  have tok1 : True := trivial
  go_enter Yba.func18, Yba.ntmps18
  go_wp2_with (at_builtin; have _t := tok1; refine append1 rfl (.tmp 17) (.tmp 19) rfl src rfl rfl hown (Mv.refl w v0) (by simp) hBs ?_; intro g cap w1 hown1 hM1; have hB1 := hM1.below hB hBs hown.below; simp only [List.nil_append, List.length_nil, Nat.zero_add] at hown1 hM1; clear tok1)
  go_ret
  exact ⟨_, rfl, own_eq hown1 (by rw [HRES.out]), hM1⟩

end Go.Proofs.Ybulkcjdg
