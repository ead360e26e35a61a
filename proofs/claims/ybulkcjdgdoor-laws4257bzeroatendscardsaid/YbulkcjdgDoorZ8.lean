import Derived.Test.YbulkcjdgDoorZ7
import Derived.Test.YbulkcjdgDoorLz64
namespace Go.Proofs.YbulkcjdgDoor
open Go.RowKit
set_option linter.unusedVariables false
set_option linter.unusedSimpArgs false

def tab (i : Nat) : Nat := [0, 1, 28, 2, 29, 14, 24, 3, 30, 22, 20, 15, 25, 17, 4, 8, 31, 27, 13, 23, 21, 19, 16, 7, 26, 12, 18, 6, 11, 5, 10, 9].getD i 0
theorem tab_at : ∀ k, k < 32 → tab (2 ^ k * 125613361 % 4294967296 / 134217728) = k := by decide
/-- The table lies in block 0. -/
def Tab (w : World) : Prop := ∀ i, i < 32 → w.cell? ⟨0, i, none⟩ = some (.int .u8 (tab i : Nat))
theorem Tab.new {w w' : World} (h : Tab w) (hN : New w w') : Tab w' := fun i hi => hN.cells (h i hi)
theorem Tab.chg {S : Nat → Prop} {w w' : World} (h : Tab w) (hN : Chg S w w') (h0 : ¬ S 0) : Tab w' := fun i hi => hN.cell (h i hi) h0

set_option maxRecDepth 100000 in
set_option maxHeartbeats 1000000 in
theorem tz32 (x : Nat) (hx0 : 0 < x) (hx : x < 4294967296) (w : World) (hT : Tab w) :
    Calls Ybad.prog 12 #[.int .u32 x] w fun e w' => ∃ k : Nat, e = .returned (.int .i64 k) ∧ w' = w ∧ k < 32 ∧ x % 2 ^ (k + 1) = 2 ^ k := by
  obtain ⟨k, hk, h1, h2⟩ := low_bit 32 x hx0 hx
  obtain ⟨y, hy⟩ : ∃ y : Int, (-(x : Int)) % 4294967296 = y := ⟨_, rfl⟩
  obtain ⟨p, hp⟩ : ∃ p : Nat, 2 ^ k = p := ⟨_, rfl⟩
  have hy2 : y = ((2 ^ 32 - x : Nat) : Int) := by omega
  have ha : bits .and .u32 (x : Int) y = (p : Int) := by rw [hy2, u32_and_nat x _ hx (by omega), h1, hp]
  obtain ⟨i, hi⟩ : ∃ i : Nat, p * 125613361 % 4294967296 / 134217728 = i := ⟨_, rfl⟩
  have hti : tab i = k := by rw [← hi, ← hp]; exact tab_at k hk
  have hi32 : i < 32 := by omega
  have hm : (p : Int) * 125613361 % 4294967296 / 134217728 = (i : Int) := by rw [← hi]; simp
  have hc := hT i hi32
  rw [hti] at hc
  have hi3 : (i : Int) < 32 := by omega
  have hd : decide ((x : Int) = 0) = false := by simp; omega
  have hz : (((x : Int) == 0) : Bool) = false := by simp; omega
  clear hT hy2 hti hi
  go_enter Ybad.func12, Ybad.ntmps12
  go_wp2
  go_ret
  exact ⟨k, rfl, rfl, hk, h2⟩

theorem len64 (x : Nat) (hx : x < 18446744073709551616) (w : World) :
    Calls Ybad.prog 10 #[.int .u64 x] w fun e w' => ∃ k : Nat, e = .returned (.int .i64 k) ∧ w' = w ∧ k ≤ 64 :=
  (Ybad.bits_Len64 x w (by omega) (by omega)).mono fun e w' ⟨h1, h2⟩ => ⟨_, h1, h2, Ybad.bitLen_le64 x (by omega) (by omega)⟩
theorem lz64 (x : Nat) (hx : x < 18446744073709551616) (w : World) :
    Calls Ybad.prog 7 #[.int .u64 x] w fun e w' => ∃ k : Nat, e = .returned (.int .i64 k) ∧ w' = w ∧ k ≤ 64 :=
  (Ybad.bits_LeadingZeros64 x w (by omega) (by omega)).mono fun e w' ⟨h1, h2⟩ => ⟨64 - Lib.bitLen (x : Int).toNat, by
    have := Ybad.bitLen_le64 x (by omega) (by omega)
    rw [h1]
    rw [Int.natCast_sub (by omega)]; rfl, h2, by omega⟩

theorem or_odd (a b : Nat) : (a ||| b) % 2 = 1 ↔ a % 2 = 1 ∨ b % 2 = 1 := by
  have h := Nat.or_mod_two_pow (a := a) (b := b) (n := 1)
  simp only [Nat.pow_one] at h
  rw [h]
  rcases Nat.mod_two_eq_zero_or_one a with ha | ha <;> rcases Nat.mod_two_eq_zero_or_one b with hb | hb <;> rw [ha, hb] <;> decide
theorem or_lt32 {a b : Nat} (ha : a < 4294967296) (hb : b < 4294967296) : a ||| b < 4294967296 := Nat.or_lt_two_pow (n := 32) ha hb

theorem cell_of (s n t f l u : Nat) (hs : s < 18446744073709551616) (ht : t < 18446744073709551616) (hn1 : 1 ≤ n) (hn2 : n ≤ 72057594037927936) (hf : s / 72057594037927936 = f) (hl : (s + n + 18446744073709551615) % 18446744073709551616 / 72057594037927936 = l) (hu : (t + (18446744073709551616 - s)) % 18446744073709551616 = u) (hlt : u < n) :
    t / 72057594037927936 = f ∨ t / 72057594037927936 = l := by omega
set_option maxRecDepth 100000 in
set_option maxHeartbeats 1000000 in
theorem halv_any (E s n al : Nat) (near : Nat → Nat) (w : World) (h12 : w.cell? ⟨E, 12, none⟩ = some (.int .u32 al)) (hne : ∀ i, i < 256 → w.cell? ⟨E, 13 + i, none⟩ = some (.int .u32 (near i))) (hal : al < 4294967296) (hnb : ∀ i, near i < 4294967296) (hs : s < 18446744073709551616) (hn : n < 18446744073709551616) :
    Calls Ybad.prog 11 #[.pointer (some ⟨E, 0, none⟩), .int .u64 s, .int .u64 n] w fun e w' => ∃ r : Nat, e = .returned (.int .u32 r) ∧ New w w' ∧ r < 4294967296 ∧ (1 ≤ n → ∀ t, t < 18446744073709551616 → up64 t s < n → (al % 2 = 1 ∨ near (t / 72057594037927936) % 2 = 1) → r % 2 = 1) := by
  obtain ⟨f, hf⟩ : ∃ f : Nat, s / 72057594037927936 = f := ⟨_, rfl⟩
  obtain ⟨l, hl⟩ : ∃ l : Nat, (s + n + 18446744073709551615) % 18446744073709551616 / 72057594037927936 = l := ⟨_, rfl⟩
  have HC := hidden (fun t u ht h1 h2 => cell_of s n t f l u hs ht h1 h2 hf hl)
  have hfb : f < 256 := by omega
  have hlb : l < 256 := by omega
  have hf' : (s : Int) / 72057594037927936 = (f : Int) := by omega
  have hl' : IntKind.u64.wrap (IntKind.u64.wrap ((s : Int) + n) - 1) / 72057594037927936 = (l : Int) := by simp only [IntKind.wrap_u64]; omega
  have hcf := hne f hfb
  have hcl := hne l hlb
  have o1 := u32_or_nat al (near f) hal (hnb f)
  have o2 := u32_or_nat (al ||| near f) (near l) (or_lt32 hal (hnb f)) (hnb l)
  have b1 := or_lt32 hal (hnb f)
  have b2 := or_lt32 b1 (hnb l)
  have HD := hidden (or_odd al (near f))
  have HD2 := hidden (or_odd (al ||| near f) (near l))
  obtain ⟨v1, hv1⟩ : ∃ v1, al ||| near f = v1 := ⟨_, rfl⟩
  rw [hv1] at o1 o2 b1 b2 HD HD2
  obtain ⟨v2, hv2⟩ : ∃ v2, v1 ||| near l = v2 := ⟨_, rfl⟩
  rw [hv2] at o2 b2 HD2
  obtain ⟨x1, hx1⟩ : ∃ x, near f = x := ⟨_, rfl⟩
  obtain ⟨x2, hx2⟩ : ∃ x, near l = x := ⟨_, rfl⟩
  rw [hx1] at hcf o1 HD
  rw [hx2] at hcl o2 HD2
  have HX1 := hidden hx1
  have HX2 := hidden hx2
  clear hx1 hx2 hv1 hv2 hne hnb
  go_enter Ybad.func11, Ybad.ntmps11
  go_wp2_with fail
  · go_ret
    exact ⟨4294967295, rfl, Chg.refl _ _, by omega, fun _ _ _ _ _ => rfl⟩
  · rename_i hle hfl _ _
    have hfl' : (f : Int) = l := by simpa using hfl
    have HF : Hid (f = l) := hidden (by omega)
    clear hfl hfl' hcl o2
    go_quiet (fail)
    go_wp2_with fail
    go_ret
    refine ⟨v1, rfl, (Chg.refl _ _).drewN _, b1, fun h1 t ht hu hb => HD.out.2 ?_⟩
    rcases HC.out t _ ht h1 (by omega) rfl hu with h | h
    · rw [h, HX1.out] at hb; exact hb
    · rw [h, ← HF.out, HX1.out] at hb; exact hb
  · rename_i hle hfl _ _
    go_quiet (fail)
    go_wp2_with fail
    go_ret
    refine ⟨v2, rfl, (Chg.refl _ _).drewN _, b2, fun h1 t ht hu hb => HD2.out.2 ?_⟩
    rw [HD.out]
    rcases HC.out t _ ht h1 (by omega) rfl hu with h | h
    · rw [h, HX1.out] at hb; exact .inl hb
    · rw [h, HX2.out] at hb; exact hb.elim (fun h => .inl (.inl h)) .inr
end Go.Proofs.YbulkcjdgDoor
