import Derived.Test.YbulkcjdgLru4
import Derived.Deep.CutRange
import Derived.Deep.LoopGhost
namespace Go.Proofs.Ybulkcjdg
open Go.RowKit
set_option linter.unusedVariables false
set_option linter.unusedSimpArgs false

/-- The keys from i-1 down to 0. -/
def downTo (i : Nat) : List Int := (List.range i).reverse.map fun (j : Nat) => (j : Int)
theorem downTo_succ (i : Nat) : downTo (i + 1) = (i : Int) :: downTo i := by simp [downTo, List.range_succ]
theorem downTo_length (i : Nat) : (downTo i).length = i := by simp [downTo]
theorem mem_downTo {i : Nat} {z : Int} : z ∈ downTo i ↔ 0 ≤ z ∧ z < i := by
  simp only [downTo, List.mem_map, List.mem_reverse, List.mem_range]
  exact ⟨fun ⟨a, h, e⟩ => by omega, fun ⟨h1, h2⟩ => ⟨z.toNat, by omega, by omega⟩⟩

/-- The lru behind i puts. -/
structure RI (w0 w : World) (L Mp : Nat) (m : Int) (f : Int → Int) (i : Nat) (es : List En) : Prop where
  lru : Lru w0.heap.size w L Mp m es
  keys : es.map (·.k) = downTo i
  vals : ∀ x, x ∈ es → x.x = f x.k
  chg : Chg (fun _ => False) w0 w

theorem Lru.high {B : Nat} {w : World} {L Mp : Nat} {m : Int} {es : List En} (h : Lru B w L Mp m es) : ∀ b, b < B → LruS L Mp es b → False := by
  rintro b hb (e | e | ⟨x, hx, e | e⟩)
  · have := h.low.1; omega
  · have := h.low.2.1; omega
  · have := (h.low.2.2 x hx).1; omega
  · have := (h.low.2.2 x hx).2; omega
theorem RI.length {w0 w : World} {L Mp : Nat} {m : Int} {f : Int → Int} {i : Nat} {es : List En} (h : RI w0 w L Mp m f i es) : es.length = i := by
  have := congrArg List.length h.keys
  simpa [downTo_length] using this
theorem wf_small {k : Nat} (hk : k ≤ 1000) : (Lit.int .i64 (k : Int)).wf = true := by
  simp [Lit.wf, IntKind.min, IntKind.max, IntKind.signed, IntKind.bits]; omega

theorem RI.put {w0 w : World} {L Mp : Nat} {m : Int} {f : Int → Int} {i : Nat} {es : List En} (h : RI w0 w L Mp m f i es) (hi : (i : Int) < m) (hm : m ≤ 100) :
    Calls Yba.prog 10 #[.pointer (some ⟨L, 0, none⟩), .int .i64 (i : Int), .int .i64 (f i)] w fun e w' => e = .returned (.tuple #[.int .i64 0, .bool false]) ∧ ∃ es', RI w0 w' L Mp m f (i + 1) es' := by
  have hl := h.length
  refine (put_new h.lru (i : Int) (f i) (by rw [h.keys, mem_downTo]; omega) (wf_small (by omega)) (by omega) hm h.chg.size).mono ?_
  rintro e w' ⟨E, V, rfl, h', hc⟩
  refine ⟨rfl, _, h', ?_, ?_, h.chg.trans hc h.lru.high⟩
  · rw [List.map_cons, h.keys, downTo_succ]
  · intro x hx
    rcases List.mem_cons.1 hx with rfl | hx
    · rfl
    · exact h.vals x hx

/-- A key k that is found, and the one that is forgotten. -/
theorem pick_two {es : List En} {m k : Nat} (h : es.map (·.k) = downTo m) (hm : 2 ≤ m) (hk : k < m) :
    ∃ l1 x l2 l3 y, es = l1 ++ x :: l2 ∧ x.k = (k : Int) ∧ l1 ++ l2 = l3 ++ [y] ∧ y.k = (if k = 0 then (1 : Int) else 0) := by
  have hx : (k : Int) ∈ es.map (·.k) := by rw [h, mem_downTo]; omega
  obtain ⟨x, hx, hxk⟩ := List.mem_map.1 hx
  obtain ⟨l1, l2, rfl⟩ := List.append_of_mem hx
  have hlen : (l1 ++ x :: l2).length = m := by
    have := congrArg List.length h
    simpa [downTo_length] using this
  have hne : l1 ++ l2 ≠ [] := by
    intro e
    have : (l1 ++ l2).length = 0 := by rw [e]; rfl
    simp only [List.length_append, List.length_cons] at hlen this
    omega
  have hlen' : l1.length + (l2.length + 1) = m := by simpa [List.length_append] using hlen
  have hat : ∀ j, j < m → ((l1 ++ x :: l2).map (·.k))[j]? = some ((m - 1 - j : Nat) : Int) := by
    intro j hj
    rw [h]
    simp [downTo, List.getElem?_reverse, hj]
  have hxi : l1.length = m - 1 - k := by
    have h1 := hat l1.length (by omega)
    have h2 : ((l1 ++ x :: l2).map (·.k))[l1.length]? = some x.k := by simp
    rw [h2, hxk] at h1
    have h1 := Option.some.inj h1
    omega
  refine ⟨l1, x, l2, (l1 ++ l2).dropLast, (l1 ++ l2).getLast hne, rfl, hxk, (List.dropLast_concat_getLast hne).symm, ?_⟩
  by_cases hk0 : k = 0
  · have hl2 : l2 = [] := by
      apply List.eq_nil_of_length_eq_zero
      omega
    subst hl2
    rw [if_pos hk0]
    have h1 := hat (m - 2) (by omega)
    have h2 : l1[m - 2]? = some ((l1 ++ []).getLast hne) := by
      rw [List.getLast_eq_getElem]
      have : l1.length - 1 = m - 2 := by omega
      simp [this]
    simp only [List.map_append, List.map_cons, List.map_nil] at h1
    rw [List.getElem?_append_left (by simp; omega), List.getElem?_map, h2] at h1
    have h1 := Option.some.inj h1
    simp only [h1]
    omega
  · rw [if_neg hk0]
    have hl2 : l2 ≠ [] := by
      intro e; subst e; simp at hlen'; omega
    have h1 := hat (m - 1) (by omega)
    have h2 : (l1 ++ l2).getLast hne = l2.getLast hl2 := List.getLast_append_of_ne_nil _ hl2
    rw [h2, List.getLast_eq_getElem]
    simp only [List.map_append, List.map_cons] at h1
    rw [List.getElem?_append_right (by simp; omega)] at h1
    simp only [List.length_map] at h1
    have e1 : m - 1 - l1.length = (l2.length - 1) + 1 := by
      have : 0 < l2.length := List.length_pos_iff.2 hl2
      omega
    rw [e1, List.getElem?_cons_succ, List.getElem?_map, List.getElem?_eq_getElem (by have : 0 < l2.length := List.length_pos_iff.2 hl2; omega)] at h1
    have h1 := Option.some.inj h1
    simp only [h1]
    omega

/-- The first get. -/
theorem RI.get {w0 w : World} {L Mp : Nat} {f : Int → Int} {s j : Nat} {es : List En} (h : RI w0 w L Mp (2 + s) f (s + 2) es) (hj : j < s + 2) (hs : s < 8) :
    ∃ (x : En) (l3 : List En) (y : En), x.k = (j : Int) ∧ x.x = f j ∧ y.k = (if j = 0 then (1 : Int) else 0) ∧ l3.length = s ∧ (2 + (s : Int)) ∉ ((x :: l3) ++ [y]).map (·.k) ∧
      Calls Yba.prog 8 #[.pointer (some ⟨L, 0, none⟩), .int .i64 (j : Int)] w fun e w' => e = .returned (.tuple #[.int .i64 (f j), .bool true]) ∧ Lru w0.heap.size w' L Mp (2 + s) ((x :: l3) ++ [y]) ∧ Chg (fun _ => False) w0 w' := by
  obtain ⟨l1, x, l2, l3, y, rfl, hxk, hl3, hyk⟩ := pick_two h.keys (by omega) hj
  have hx : x ∈ l1 ++ x :: l2 := by simp
  have hxx : x.x = f j := by rw [h.vals x hx, hxk]
  have hp : ((x :: l3) ++ [y]).Perm (l1 ++ x :: l2) := by
    rw [List.cons_append, ← hl3]
    exact List.perm_middle.symm
  have hlen := h.length
  refine ⟨x, l3, y, hxk, hxx, hyk, ?_, ?_, ?_⟩
  · have := hp.length_eq
    simp only [List.length_append, List.length_cons, List.length_nil] at this hlen
    omega
  · intro hm
    have : (2 + (s : Int)) ∈ (l1 ++ x :: l2).map (·.k) := (hp.map _).mem_iff.1 hm
    rw [h.keys, mem_downTo] at this
    omega
  · have hg := get_hit h.lru
    rw [hxk, hxx] at hg
    refine hg.mono ?_
    rintro e w' ⟨rfl, h', hc⟩
    rw [hl3] at h'
    exact ⟨rfl, h', h.chg.trans hc h.lru.high⟩

/-- What follows the first get. -/
theorem after_get {w0 w : World} {L Mp : Nat} {s : Nat} {x y : En} {l3 : List En} (h : Lru w0.heap.size w L Mp (2 + s) ((x :: l3) ++ [y])) (hl : l3.length = s) (hs : s < 8) (hk : (2 + (s : Int)) ∉ ((x :: l3) ++ [y]).map (·.k)) (hc0 : Chg (fun _ => False) w0 w) :
    Calls Yba.prog 10 #[.pointer (some ⟨L, 0, none⟩), .int .i64 (2 + s), .int .i64 0] w fun e w' => e = .returned (.tuple #[.int .i64 y.k, .bool true]) ∧ Chg (fun _ => False) w0 w' ∧
      Calls Yba.prog 8 #[.pointer (some ⟨L, 0, none⟩), .int .i64 x.k] w' fun e w'' => e = .returned (.tuple #[.int .i64 x.x, .bool true]) ∧ Chg (fun _ => False) w0 w'' ∧
        Calls Yba.prog 8 #[.pointer (some ⟨L, 0, none⟩), .int .i64 y.k] w'' fun e w3 => e = .returned (.tuple #[.int .i64 0, .bool false]) ∧ w3 = w'' := by
  have hlen : ((x :: l3) ++ [y]).length = s + 2 := by simp only [List.length_append, List.length_cons, List.length_nil]; omega
  refine (put_evict h (2 + s) 0 hk (by have := wf_small (k := 2 + s) (by omega); simpa using this) (by omega) (by omega) hc0.size).mono ?_
  rintro e w' ⟨E, V, rfl, h', hc⟩
  have hc1 := hc0.trans hc h.high
  refine ⟨rfl, hc1, ?_⟩
  have h2 : Lru w0.heap.size w' L Mp (2 + s) ([⟨E, V, 2 + s, 0⟩] ++ x :: l3) := h'
  refine (get_hit h2).mono ?_
  rintro e w'' ⟨rfl, h3, hc3⟩
  refine ⟨rfl, hc1.trans hc3 h2.high, ?_⟩
  have hy : y ∈ (x :: l3) ++ [y] := by simp
  refine get_miss h3 y.k ?_ (h.kwf y hy)
  have hnd := h.knd
  simp only [List.map_append, List.map_cons, List.map_nil] at hnd
  have h4 := (List.nodup_append.1 hnd).2.2
  intro hm
  simp only [List.map_append, List.map_cons, List.map_nil, List.singleton_append, List.mem_cons] at hm
  rcases hm with e | e | e
  · exact h4 x.k (by simp) y.k (by simp) e.symm
  · apply hk
    rw [← e]
    exact List.mem_map.2 ⟨y, hy, rfl⟩
  · exact h4 y.k (by simp [e]) y.k (by simp) rfl

set_option maxRecDepth 100000 in
set_option maxHeartbeats 2000000 in
theorem refresh_walk (w : World) (x0 x1 : Nat) (v : Int) (s : Nat) (es : (x0 : Int) % 8 = s) (hs : s < 8) (hx0 : x0 ≤ 255) (hx1 : x1 ≤ 255) :
    Calls Yba.prog 4 #[.int .u8 x0, .int .u8 x1, .int .i64 v] w fun e w' => e = .returned (.bool true) ∧ Below w.heap.size w w' := by
  have HN := fun m => hidden2 (new_lru w m)
  go_enter Yba.func4, Yba.ntmps4
  go_wp2_with (go_at_call 6; refine (HN _).out.mono ?_; rintro e w9 ⟨rfl, h9, hc9⟩)
  have hR0 : RI w w9 (w.heap.size + 1) w.heap.size (2 + s) (fun z => wrap64 (v + z)) 0 [] := ⟨h9, rfl, (fun x hx => by cases hx), hc9⟩
  clear h9 hc9 HN
  generalize w9 = ws at *
  obtain ⟨L, hL⟩ : ∃ L, L = w.heap.size + 1 := ⟨_, rfl⟩
  obtain ⟨Mp, hMp⟩ : ∃ Mp, Mp = w.heap.size := ⟨_, rfl⟩
  have hR1 : RI w ws L Mp (2 + s) (fun z => wrap64 (v + z)) 0 [] := by rw [hL, hMp]; exact hR0
  rw [← hL]
  clear hR0 hL hMp
  go_loopg [9] (s + 2) (fun g vv wr => ∃ k : Nat, g + k = s + 2 ∧ vv = .int .i64 k ∧ ∃ l, RI w wr L Mp (2 + s) (fun z => wrap64 (v + z)) k l)
  case atStart => exact ⟨0, rfl, rfl, _, hR1⟩
  case round =>
    obtain ⟨k, hgk, rfl, l, hR⟩ := hrel
    clear hR1
    by_cases hk : k < s + 2
    · have HP := hidden2 (hR.put (by omega) (by omega))
      clear hR
      go_wp2_with (go_at_call 10; refine HP.out.mono ?_; rintro e w9 ⟨rfl, l', hR'⟩)
      go_roundg (s + 1 - k)
      case measure => omega
      case rel => exact ⟨k + 1, by omega, by go_num, _, hR'⟩
    · obtain rfl : k = s + 2 := by omega
      obtain ⟨j, hj, hjs⟩ : ∃ j : Nat, (x1 : Int) % (2 + s) = j ∧ j < s + 2 := ⟨x1 % (2 + s), by simp, Nat.lt_of_lt_of_le (Nat.mod_lt _ (by omega)) (by omega)⟩
      have hne : (2 + (s : Int)) ≠ 0 := by omega
      obtain ⟨x, l3, y, hxk, hxx, hyk, hl3, hk2, hget⟩ := hR.get hjs hs
      have HG := hidden2 hget
      have HA := fun w' (h' : Lru w.heap.size w' L Mp (2 + s) ((x :: l3) ++ [y])) (hc : Chg (fun _ => False) w w') => hidden2 (after_get h' hl3 hs hk2 hc)
      clear hget hR hk2 hl3
      rw [hxk, hxx] at HA
      by_cases hj0 : j = 0
      · rw [if_pos hj0] at hyk
        rw [hyk] at HA
        subst hj0
        go_wp2_with (first
          | (go_at_call 10; refine HP.out.mono ?_; rintro e w9 ⟨rfl, hc9, hn9⟩; have HG2 := hidden2 hn9; clear hn9)
          | (go_at_call 8; refine HG3.out.mono ?_; rintro e w9 ⟨rfl, hw9⟩; have hw8 := hw9.symm; subst hw8)
          | (go_at_call 8; refine HG2.out.mono ?_; rintro e w9 ⟨rfl, hc9, hn9⟩; have HG3 := hidden2 hn9; have HC3 := hidden2 hc9; clear hn9)
          | (go_at_call 8; refine HG.out.mono ?_; rintro e w9 ⟨rfl, h9, hc9⟩; have HP := HA w9 h9 hc9; clear h9 hc9))
        go_ret
        exact ⟨rfl, HC3.out.below (fun k hk => hk.elim) (Nat.le_refl _)⟩
      · rw [if_neg hj0] at hyk
        rw [hyk] at HA
        have hd : decide ((j : Int) = 0) = false := by simp; omega
        go_wp2_with (first
          | (go_at_call 10; refine HP.out.mono ?_; rintro e w9 ⟨rfl, hc9, hn9⟩; have HG2 := hidden2 hn9; clear hn9)
          | (go_at_call 8; refine HG3.out.mono ?_; rintro e w9 ⟨rfl, hw9⟩; have hw8 := hw9.symm; subst hw8)
          | (go_at_call 8; refine HG2.out.mono ?_; rintro e w9 ⟨rfl, hc9, hn9⟩; have HG3 := hidden2 hn9; have HC3 := hidden2 hc9; clear hn9)
          | (go_at_call 8; refine HG.out.mono ?_; rintro e w9 ⟨rfl, h9, hc9⟩; have HP := HA w9 h9 hc9; clear h9 hc9))
        go_ret
        exact ⟨rfl, HC3.out.below (fun k hk => hk.elim) (Nat.le_refl _)⟩
end Go.Proofs.Ybulkcjdg
