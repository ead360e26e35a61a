namespace Go.Proofs.Ybulkcjdg
/-- The hops listed for destination number q. -/
def hops (S : List (List Int)) (q : Nat) : List Int := (S.getD q []).take 1024
/-- Whether destination number q is reached. -/
def arr (A : List Bool) (q : Nat) (d : Int) : List Int := if A.getD q false = true then [d] else []
/-- The stand-in topology's route to destination number q, the point d. -/
def rt (S : List (List Int)) (A : List Bool) (src : Int) (q : Nat) (d : Int) : List Int := (src :: hops S q) ++ arr A q d
theorem hops_le (S : List (List Int)) (q : Nat) : (hops S q).length ≤ 1024 := by unfold hops; simp; omega
theorem rt_len (S : List (List Int)) (A : List Bool) (src : Int) (q : Nat) (d : Int) : 1 ≤ (rt S A src q d).length ∧ (rt S A src q d).length ≤ 1026 := by
  have := hops_le S q
  unfold rt arr
  split <;> simp <;> omega

/-- How often a path moves among its first k + 1 points. -/
def mvTo (p : List Int) : Nat → Nat
  | 0 => 0
  | k + 1 => mvTo p k + if p.getD (k + 1) 0 = p.getD k 0 then 0 else 1
/-- How often it moves. -/
def mv (p : List Int) : Nat := mvTo p (p.length - 1)
theorem mvTo_le (p : List Int) (k : Nat) : mvTo p k ≤ k := by
  induction k with
  | zero => simp [mvTo]
  | succ k ih => unfold mvTo; split <;> omega
theorem mv_le (p : List Int) : mv p ≤ p.length := Nat.le_trans (mvTo_le p _) (by omega)

/-- The tallies behind q destinations: unreached, moves, messages, reached. -/
def tU (S : List (List Int)) (A : List Bool) (src lo : Int) : Nat → Nat
  | 0 => 0
  | q + 1 => tU S A src lo q + if (rt S A src q (lo + q)).getD ((rt S A src q (lo + q)).length - 1) 0 = lo + q then 0 else 1
def tM (S : List (List Int)) (A : List Bool) (src lo : Int) : Nat → Nat
  | 0 => 0
  | q + 1 => tM S A src lo q + mv (rt S A src q (lo + q))
def tG (M : List Int) : Nat → Int
  | 0 => 0
  | q + 1 => tG M q + M.getD q 0
def tR (bad : Bool) (R : List Bool) : Nat → Nat
  | 0 => 0
  | q + 1 => tR bad R q + if bad = false ∧ R.getD q false = true then 1 else 0
theorem tU_le (S : List (List Int)) (A : List Bool) (src lo : Int) (q : Nat) : tU S A src lo q ≤ q := by
  induction q with
  | zero => simp [tU]
  | succ q ih => unfold tU; split <;> omega
theorem tM_le (S : List (List Int)) (A : List Bool) (src lo : Int) (q : Nat) : tM S A src lo q ≤ 1026 * q := by
  induction q with
  | zero => simp [tM]
  | succ q ih =>
    unfold tM
    have h1 := mv_le (rt S A src q (lo + q))
    have h2 := rt_len S A src q (lo + q)
    omega
theorem tR_le (bad : Bool) (R : List Bool) (q : Nat) : tR bad R q ≤ q := by
  induction q with
  | zero => simp [tR]
  | succ q ih => unfold tR; split <;> omega
theorem tG_le (M : List Int) (h : ∀ x ∈ M, -32768 ≤ x ∧ x ≤ 32767) (q : Nat) : -32768 * q ≤ tG M q ∧ tG M q ≤ 32768 * q := by
  induction q with
  | zero => simp [tG]
  | succ q ih =>
    unfold tG
    have hm : -32768 ≤ M.getD q 0 ∧ M.getD q 0 ≤ 32767 := by
      by_cases hq : q < M.length
      · have := h M[q] (List.getElem_mem hq)
        simpa [hq] using this
      · have e : M.getD q 0 = 0 := by simp [List.getD, List.getElem?_eq_none (show M.length ≤ q by omega)]
        omega
    omega
end Go.Proofs.Ybulkcjdg
