namespace Go.Proofs.Ybulkcjcs
/-- JSON white space. -/
def wsB (c : Int) : Bool := c == 32 || c == 9 || c == 10 || c == 13
/-- The first place from i on that is past the end or holds no white space. -/
def skipN (zs : List Int) (i : Nat) : Nat := i + ((zs.drop i).takeWhile wsB).length

theorem skipN_step (zs : List Int) (k : Nat) (hk : k < zs.length) (h : wsB (zs.getD k 0) = true) : skipN zs k = skipN zs (k + 1) := by
  unfold skipN
  have e : zs.getD k 0 = zs[k] := by simp [hk]
  rw [e] at h
  rw [List.drop_eq_getElem_cons hk, List.takeWhile_cons, if_pos h]
  simp; omega
theorem skipN_stop (zs : List Int) (k : Nat) (h : zs.length ≤ k ∨ wsB (zs.getD k 0) = false) : skipN zs k = k := by
  unfold skipN
  by_cases hk : k < zs.length
  · rcases h with h | h
    · omega
    · have e : zs.getD k 0 = zs[k] := by simp [hk]
      rw [e] at h
      rw [List.drop_eq_getElem_cons hk, List.takeWhile_cons, if_neg (by simp [h])]
      simp
  · rw [List.drop_eq_nil_of_le (by omega)]; simp
theorem skipN_ge (zs : List Int) (k : Nat) : k ≤ skipN zs k := by unfold skipN; omega
theorem skipN_le (zs : List Int) (k : Nat) : skipN zs k ≤ k + zs.length := by
  unfold skipN
  have h := (List.takeWhile_prefix wsB (l := zs.drop k)).length_le
  simp at h; omega
theorem skipN_ws (zs : List Int) (i k : Nat) (h1 : i ≤ k) (h2 : k < skipN zs i) : wsB (zs.getD k 0) = true := by
  unfold skipN at h2
  have hp := List.takeWhile_prefix wsB (l := zs.drop i)
  have hlt : k - i < ((zs.drop i).takeWhile wsB).length := by omega
  have hall := List.all_takeWhile (l := zs.drop i) (p := wsB)
  have hm := (List.all_eq_true.1 hall) _ (List.getElem_mem hlt)
  have hle := hp.length_le
  rw [List.IsPrefix.getElem hp hlt] at hm
  simp only [List.getElem_drop] at hm
  have hk : k < zs.length := by simp at hle; omega
  have e : zs.getD k 0 = zs[k] := by simp [hk]
  rw [e]
  have : i + (k - i) = k := by omega
  simpa [this] using hm
end Go.Proofs.Ybulkcjcs
