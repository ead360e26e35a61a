import Derived.Test.YbulkcjdgChg
namespace Go.Proofs.Ybulkcjdg
open Go.RowKit
open Go.Deep (blk_alloc_lt blk_alloc_new nblk_alloc blk_setCell_other nblk_setCell)
set_option linter.unusedVariables false

/-! ### The plain ring -/
def upd (f : Nat → Nat) (a b : Nat) : Nat → Nat := fun x => if x = a then b else f x
theorem upd_same (f : Nat → Nat) (a b : Nat) : upd f a b a = b := by simp [upd]
theorem upd_other (f : Nat → Nat) {a b x : Nat} (h : x ≠ a) : upd f a b x = f x := by simp [upd, h]
/-- From a through the nodes l to b. -/
def Seg (nx pv : Nat → Nat) : Nat → List Nat → Nat → Prop
  | a, [], b => nx a = b ∧ pv b = a
  | a, x :: l, b => nx a = x ∧ pv x = a ∧ Seg nx pv x l b
theorem seg_append {nx pv : Nat → Nat} {b x : Nat} (l1 l2 : List Nat) : ∀ a, Seg nx pv a (l1 ++ x :: l2) b ↔ Seg nx pv a l1 x ∧ Seg nx pv x l2 b := by
  induction l1 with
  | nil => intro a; simp [Seg, and_assoc]
  | cons y l1 ih => intro a; simp [Seg, ih, and_assoc]
theorem seg_congr {nx pv nx' pv' : Nat → Nat} {b : Nat} (l : List Nat) : ∀ a, (∀ x, x = a ∨ x ∈ l → nx' x = nx x) → (∀ x, x ∈ l ∨ x = b → pv' x = pv x) → Seg nx pv a l b → Seg nx' pv' a l b := by
  induction l with
  | nil => intro a h1 h2 h; exact ⟨(h1 a (.inl rfl)).trans h.1, (h2 b (.inr rfl)).trans h.2⟩
  | cons y l ih =>
    intro a h1 h2 h
    refine ⟨(h1 a (.inl rfl)).trans h.1, (h2 y (.inl (by simp))).trans h.2.1, ih y (fun x hx => h1 x (.inr (by rcases hx with rfl | hx <;> simp [*]))) (fun x hx => h2 x (by rcases hx with hx | hx; exact .inl (by simp [hx]); exact .inr hx)) h.2.2⟩
theorem seg_first {nx pv : Nat → Nat} {a b : Nat} {l : List Nat} (h : Seg nx pv a l b) : nx a = l.headD b := by
  cases l with
  | nil => exact h.1
  | cons x l => exact h.1
theorem seg_last_mem {nx pv : Nat → Nat} {b : Nat} (l : List Nat) : ∀ a, Seg nx pv a l b → pv b ∈ a :: l := by
  induction l with
  | nil => intro a h; simp [h.2]
  | cons x l ih => intro a h; exact List.mem_cons_of_mem _ (ih x h.2.2)
theorem seg_first_mem {nx pv : Nat → Nat} {a b : Nat} (l : List Nat) (h : Seg nx pv a l b) : nx a ∈ l ++ [b] := by
  cases l with
  | nil => simp [h.1]
  | cons x l => simp [h.1]
/-- The node e is passed over. -/
theorem seg_unlink {nx pv nx' pv' : Nat → Nat} {e b : Nat} (l2 : List Nat) (h2 : Seg nx pv e l2 b) (hn2 : (l2 ++ [b]).Nodup) (k1 : nx' (pv e) = nx e) (k2 : pv' (nx e) = pv e) (k4 : ∀ x, x ∈ l2 → nx' x = nx x) (k6 : ∀ x, x ∈ l2 ++ [b] → x ≠ nx e → pv' x = pv x) (l1 : List Nat) :
    ∀ a, Seg nx pv a l1 e → (a :: l1).Nodup → (∀ x, x ∈ a :: l1 → x ≠ pv e → nx' x = nx x) → (∀ x, x ∈ l1 → pv' x = pv x) → Seg nx' pv' a (l1 ++ l2) b := by
  induction l1 with
  | nil =>
    intro a h1 _ _ _
    obtain ⟨_, e2⟩ := h1
    cases l2 with
    | nil => exact ⟨by rw [← e2, k1]; exact h2.1, by rw [← h2.1, k2, e2]⟩
    | cons y l2 =>
      obtain ⟨e3, e4, h3⟩ := h2
      refine ⟨by rw [← e2, k1, e3], by rw [← e3, k2, e2], seg_congr l2 y (fun x hx => k4 x (by rcases hx with rfl | hx <;> simp [*])) (fun x hx => k6 x (by rcases hx with hx | hx <;> simp [hx]) ?_) h3⟩
      rw [e3]
      rintro rfl
      simp at hn2
      rcases hx with hx | hx
      · exact hn2.1.1 hx
      · exact hn2.1.2 hx
  | cons x l1 ih =>
    intro a h1 hnd k3 k5
    obtain ⟨e1, e2, h3⟩ := h1
    have hm := seg_last_mem l1 x h3
    have hna : a ∉ x :: l1 := (List.nodup_cons.1 hnd).1
    refine ⟨by rw [k3 a (by simp) (fun h => hna (h ▸ hm)), e1], by rw [k5 x (by simp), e2], ih x h3 (List.nodup_cons.1 hnd).2 (fun y hy => k3 y (List.mem_cons_of_mem _ hy)) (fun y hy => k5 y (List.mem_cons_of_mem _ hy))⟩

/-- 'move' to the front. -/
theorem ring_move {nx pv : Nat → Nat} {L e : Nat} {l1 l2 : List Nat} (h : Seg nx pv L (l1 ++ e :: l2) L) (hnd : (L :: (l1 ++ e :: l2)).Nodup) (hne : l1 ≠ []) :
    pv e ∈ l1 ∧ nx e ∈ l2 ++ [L] ∧ nx L ∈ l1 ∧ Seg (upd (upd (upd nx (pv e) (nx e)) e (nx L)) L e) (upd (upd (upd pv (nx e) (pv e)) e L) (nx L) e) L (e :: (l1 ++ l2)) L := by
  obtain ⟨h1, h2⟩ := (seg_append l1 l2 L).1 h
  match l1, hne, h1 with
  | f :: l1, _, ⟨e1, e2, h3⟩ =>
    simp only [List.cons_append, List.nodup_cons, List.mem_cons, List.mem_append, not_or, List.nodup_append] at hnd
    obtain ⟨⟨hLf, hL1, hLe, hL2⟩, ⟨hf1, hfe, hf2⟩, hn1, ⟨he2, hn2⟩, hd⟩ := hnd
    have hp := seg_last_mem l1 f h3
    have hn := seg_first_mem l2 h2
    have hpe : pv e ≠ e := by
      intro h9; rw [h9] at hp
      rcases List.mem_cons.1 hp with h | h
      · exact hfe h.symm
      · exact hd e h e (.inl rfl) rfl
    have hpL : pv e ≠ L := by
      intro h9; rw [h9] at hp
      rcases List.mem_cons.1 hp with h | h
      · exact hLf h
      · exact hL1 h
    have hne' : nx e ≠ e := by
      intro h9; rw [h9] at hn
      rcases List.mem_append.1 hn with h | h
      · exact he2 h
      · simp at h; exact hLe h.symm
    have hnf : nx e ≠ f := by
      intro h9; rw [h9] at hn
      rcases List.mem_append.1 hn with h | h
      · exact hf2 h
      · simp at h; exact hLf h.symm
    refine ⟨hp, hn, by rw [e1]; simp, ?_⟩
    rw [e1]
    refine ⟨upd_same _ _ _, by rw [upd_other _ (fun h => hfe h.symm), upd_same], ?_⟩
    refine ⟨by rw [upd_other _ (fun h => hLe h.symm), upd_same], upd_same _ _ _, ?_⟩
    refine seg_unlink (nx := nx) (pv := pv) (e := e) l2 h2 ?_ ?_ ?_ ?_ ?_ l1 f h3 ?_ ?_ ?_
    · rw [List.nodup_append]; exact ⟨hn2, by simp, fun x hx y hy => by simp at hy; subst hy; rintro rfl; exact hL2 hx⟩
    · rw [upd_other _ hpL, upd_other _ hpe, upd_same]
    · rw [upd_other _ hnf, upd_other _ hne', upd_same]
    · intro x hx
      rw [upd_other _ (by rintro rfl; exact hL2 hx), upd_other _ (by rintro rfl; exact he2 hx), upd_other _ ?_]
      rintro rfl
      rcases List.mem_cons.1 hp with h | h
      · exact hf2 (h ▸ hx)
      · exact hd _ h _ (.inr hx) rfl
    · intro x hx hxn
      rw [upd_other _ ?_, upd_other _ ?_, upd_other _ hxn]
      · rintro rfl
        rcases List.mem_append.1 hx with h | h
        · exact he2 h
        · simp at h; exact hLe h.symm
      · rintro rfl
        rcases List.mem_append.1 hx with h | h
        · exact hf2 h
        · simp at h; exact hLf h.symm
    · exact List.nodup_cons.2 ⟨hf1, hn1⟩
    · intro x hx hxp
      rw [upd_other _ ?_, upd_other _ ?_, upd_other _ hxp]
      · rintro rfl
        rcases List.mem_cons.1 hx with h | h
        · exact hfe h.symm
        · exact hd _ h _ (.inl rfl) rfl
      · rintro rfl
        rcases List.mem_cons.1 hx with h | h
        · exact hLf h
        · exact hL1 h
    · intro x hx
      rw [upd_other _ (by rintro rfl; exact hf1 hx), upd_other _ (by rintro rfl; exact hd _ hx _ (.inl rfl) rfl), upd_other _ ?_]
      rintro rfl
      rcases List.mem_append.1 hn with h | h
      · exact hd _ hx _ (.inr h) rfl
      · simp at h; rw [h] at hx; exact hL1 hx

/-- 'remove'. -/
theorem ring_remove {nx pv : Nat → Nat} {L e : Nat} {l1 l2 : List Nat} (h : Seg nx pv L (l1 ++ e :: l2) L) (hnd : (L :: (l1 ++ e :: l2)).Nodup) :
    pv e ∈ L :: l1 ∧ nx e ∈ l2 ++ [L] ∧ Seg (upd nx (pv e) (nx e)) (upd pv (nx e) (pv e)) L (l1 ++ l2) L := by
  obtain ⟨h1, h2⟩ := (seg_append l1 l2 L).1 h
  simp only [List.nodup_cons, List.mem_cons, List.mem_append, not_or, List.nodup_append] at hnd
  obtain ⟨⟨hL1, hLe, hL2⟩, hn1, ⟨he2, hn2⟩, hd⟩ := hnd
  have hp := seg_last_mem l1 L h1
  have hn := seg_first_mem l2 h2
  refine ⟨hp, hn, seg_unlink (nx := nx) (pv := pv) (e := e) l2 h2 ?_ (upd_same _ _ _) (upd_same _ _ _) ?_ (fun x _ hx => upd_other _ hx) l1 L h1 (List.nodup_cons.2 ⟨hL1, hn1⟩) (fun x _ hx => upd_other _ hx) ?_⟩
  · rw [List.nodup_append]; exact ⟨hn2, by simp, fun x hx y hy => by simp at hy; subst hy; rintro rfl; exact hL2 hx⟩
  · intro x hx
    refine upd_other _ ?_
    rintro rfl
    rcases List.mem_cons.1 hp with h | h
    · exact hL2 (h ▸ hx)
    · exact hd _ h _ (.inr hx) rfl
  · intro x hx
    refine upd_other _ ?_
    rintro rfl
    rcases List.mem_append.1 hn with h | h
    · exact hd _ hx _ (.inr h) rfl
    · simp at h; rw [h] at hx; exact hL1 hx

/-- 'insert' behind the root. -/
theorem ring_insert {nx pv : Nat → Nat} {L e : Nat} {l : List Nat} (h : Seg nx pv L l L) (hnd : (L :: l).Nodup) (he : e ∉ L :: l) :
    nx L ∈ l ++ [L] ∧ Seg (upd (upd nx e (nx L)) L e) (upd (upd pv e L) (nx L) e) L (e :: l) L := by
  have hn := seg_first_mem l h
  simp only [List.mem_cons, not_or, List.nodup_cons] at he hnd
  obtain ⟨heL, hel⟩ := he
  obtain ⟨hLl, hnl⟩ := hnd
  refine ⟨hn, upd_same _ _ _, ?_, ?_⟩
  · rw [upd_other _ ?_, upd_same]
    rintro rfl
    rcases List.mem_append.1 hn with h | h
    · exact hel h
    · simp at h; exact heL h
  · cases l with
    | nil => exact ⟨by rw [upd_other _ heL, upd_same]; exact h.1, by rw [h.1, upd_same]⟩
    | cons f l =>
      obtain ⟨e1, e2, h3⟩ := h
      simp only [List.mem_cons, not_or, List.nodup_cons] at hel hLl hnl
      rw [e1]
      refine ⟨by rw [upd_other _ heL, upd_same], upd_same _ _ _, seg_congr l f ?_ ?_ h3⟩
      · intro x hx
        rw [upd_other _ ?_, upd_other _ ?_]
        · rintro rfl; rcases hx with h | h; exact hel.1 h; exact hel.2 h
        · rintro rfl; rcases hx with h | h; exact hLl.1 h; exact hLl.2 h
      · intro x hx
        rw [upd_other _ ?_, upd_other _ ?_]
        · rintro rfl; rcases hx with h | h; exact hel.2 h; exact heL h
        · rintro rfl; rcases hx with h | h; exact hnl.1 h; exact hLl.1 h.symm
end Go.Proofs.Ybulkcjdg
