import Derived.Test.YbulkcjdgDoorZ10
namespace Go.Proofs.YbulkcjdgDoor
open Go.RowKit
set_option linter.unusedVariables false
set_option linter.unusedSimpArgs false

set_option maxRecDepth 100000 in
set_option maxHeartbeats 1000000 in
theorem narrow_any (s : Sp) (E W : Nat) (w : World) (hO : s.Ok E) (hA : s.At E w) (hE : E < w.heap.size) (hb : ∀ j, j < 258 → (w.cell? ⟨E, 12 + j, none⟩).isSome = true) (hf : ∀ i, w.frozen? ⟨E, i, none⟩ = false) (hW : W ≤ s.steps + 1) :
    Calls Ybad.prog 8 #[.pointer (some ⟨E, 0, none⟩), .int .i64 W] w fun e w' => e = .returned (.tuple #[]) ∧ Step E w w' ∧ ∃ (al : Nat) (near : Nat → Nat), Nr w' E al near ∧ (al % 2 = 1 ∨ ∀ m, m < s.ne → near (s.ends m / 72057594037927936) % 2 = 1) := by
  obtain ⟨Z, hZ⟩ : ∃ Z, Array.replicate 256 (Value.int .u32 0) = Z := ⟨_, rfl⟩
  have hz := zrow w
  rw [hZ] at hz
  have hsz : Z.size = 256 := by rw [← hZ, Array.size_replicate]
  obtain ⟨v12, c12⟩ : ∃ v, w.cell? ⟨E, 12, none⟩ = some v := Option.isSome_iff_exists.1 (hb 0 (by omega))
  have f12 := hf 12
  obtain ⟨w1, hst, hS1, hN1, h269⟩ := start_any E W w Z hZ hb hf
  obtain ⟨v269, c269⟩ := Option.isSome_iff_exists.1 h269
  have f269 := hN1.f 269
  have A1 := hA.step hS1 hO
  have d3 := A1.c3
  have dr := A1.r W (by omega)
  have hR := hO.R
  have hR' : ¬ E = s.R := fun h => hR h.symm
  have hWz : (W : Int) < s.steps + 2 := by omega
  have S2 := hidden (hS1.set 269 (by omega) (.int .i64 W))
  have N2 := hidden (hN1.setW (.int .i64 W))
  have HO := hidden hO
  have HA := hidden hA
  clear hZ hb hf hA hO A1 hS1 hN1 h269 
  go_enter Ybad.func8, Ybad.ntmps8
  go_wp2_with fail
  go_loopg [31] (W + 1) (fun g iv wr => ∃ (k al : Nat) (near : Nat → Nat), g + k = W + 1 ∧ iv = .int .i64 k ∧ Step E w wr ∧ Nr wr E al near ∧ (1 ≤ k → al % 2 = 1 ∨ ∀ m, m < s.ne → near (s.ends m / 72057594037927936) % 2 = 1))
  case atStart => exact ⟨0, 0, fun _ => 0, by omega, rfl, S2.out, N2.out, fun h => absurd h (by omega)⟩
  case round =>
    obtain ⟨k, al, near, hgk, rfl, hS, hN, hM⟩ := hrel
    have HS := hidden hS
    have HN := hidden hN
    have HM := hidden hM
    clear hM
    by_cases hk : k < W + 1
    · have hkz : (k : Int) < (W : Int) + 1 := by omega
      have A2 := HA.out.step hS HO.out
      have ck := A2.v W k (by omega) hk
      have d10 := A2.c10
      have rv1 := HO.out.rv1 W k
      have rv2 := HO.out.rv2 W k
      obtain ⟨r0, hr0⟩ : ∃ r0, s.rv W k = r0 := ⟨_, rfl⟩
      rw [hr0] at ck rv1 rv2
      clear hS hN c12 c269 f12 f269 hst hz d3 dr hr0 A2
      go_upto_if 39 with fail
      go_cut [5] (fun s5 wx => wx = wr ∧ ∃ r : Nat, s5 = .int .u64 r ∧ 1 ≤ r ∧ r < 18446744073709551616)
      case first =>
        cases hli : s.li
        · rw [hli] at d10
          go_wp2_with fail
          go_meet
          exact ⟨rfl, r0, rfl, rv1, rv2⟩
        · rw [hli] at d10
          obtain ⟨r1, hr1⟩ : ∃ r1 : Nat, min (r0 : Int) 1152921504606846976 = r1 := ⟨min r0 1152921504606846976, by omega⟩
          have e7 : IntKind.u64.wrap ((r1 : Int) * 7) = ((r1 * 7 : Nat) : Int) := by rw [IntKind.wrap_u64]; omega
          go_wp2_with fail
          go_meet
          exact ⟨rfl, r1 * 7, rfl, by omega, by omega⟩
      case rest =>
        obtain ⟨rfl, r, rfl, hr1, hr2⟩ := hcut
        clear ck d10 rv1 rv2 r0
        have N3 := HN.out
        have c12 := N3.a
        have f12 := N3.f 12
        obtain ⟨p, hp⟩ : ∃ p : Nat, 2 ^ k = p := ⟨_, rfl⟩
        have hpb : p < 4294967296 := by
          have := HO.out.st2
          rw [← hp]
          show 2 ^ k < 2 ^ 32
          exact Nat.pow_lt_pow_right (by omega) (by omega)
        have hpz : (2 : Int) ^ min k 32 % 4294967296 = (p : Int) := by
          have := HO.out.st2
          rw [show min k 32 = k by omega]
          have e : (2 : Int) ^ k = (p : Int) := by rw [← hp]; simp
          rw [e]; omega
        have hpz' : (2 : Int) ^ k % 4294967296 = (p : Int) := by
          have := HO.out.st2
          rwa [show min k 32 = k by omega] at hpz
        have HP : Hid (k = 0 → p = 1) := hidden (fun h => by rw [← hp, h])
        clear hp
        have hst2 := HO.out.st2
        have hk31 : k ≤ 31 := by omega
        by_cases hr : 4611686018427387904 < r
        · have hrz : 4611686018427387904 < (r : Int) := by omega
          have oa := u32_or_nat al p N3.al hpb
          have ob := or_lt32 N3.al hpb
          have od := hidden (or_odd al p)
          obtain ⟨al', hal⟩ : ∃ x, al ||| p = x := ⟨_, rfl⟩
          rw [hal] at oa ob od
          clear hal N3
          go_wp2_with fail
          go_region
          go_wp2_with fail
          go_roundg (W + 1 - (k + 1))
          case measure => omega
          case rel =>
            refine ⟨k + 1, al', near, by omega, by go_num, (HS.out.set 12 (by omega) _).drew, ((HN.out.setA al' ob)).drew, fun _ => ?_⟩
            by_cases h0 : k = 0
            · exact .inl (od.out.2 (.inr (by rw [HP.out h0])))
            · rcases HM.out (by omega) with h | h
              · exact .inl (od.out.2 (.inl h))
              · exact .inr h
        · have hrz : ¬ 4611686018427387904 < (r : Int) := by omega
          have A3 := HA.out.step HS.out HO.out
          have d0 := A3.c0
          have d9 := A3.c9
          have hEw : E < wc.heap.size := Nat.lt_of_lt_of_le hE HS.out.chg.size
          have hne := HO.out.ne
          obtain ⟨t0, ht0, ht0b⟩ : ∃ t0 : Nat, IntKind.u64.wrap ((s.key : Int) * 2 ^ k) = (t0 : Int) ∧ t0 < 18446744073709551616 := by
            refine ⟨(IntKind.u64.wrap ((s.key : Int) * 2 ^ k)).toNat, ?_, ?_⟩ <;> rw [IntKind.wrap_u64] <;> omega
          have HA3 := hidden A3
          clear A3 N3
          go_upto_if 62 with fail
          go_cut [6] (fun s6 wx => ∃ (b o len cap : Nat) (tv : Nat → Nat), s6 = .slice (some ⟨b, o, none⟩) len cap ∧ len ≤ cap ∧ cap ≤ 3 ∧ (k = 0 → len = s.ne ∧ tv = s.ends) ∧ (∀ m, tv m < 18446744073709551616) ∧ Step E w wx ∧ Nr wx E al near ∧ ∀ w', Step E wx w' → ∀ m, m < len → w'.cell? ⟨b, o + m, none⟩ = some (.int .u64 (tv m)))
          case first =>
            by_cases h0 : k = 0
            · subst h0
              rcases hne with hne | hne
              · rw [hne] at d9
                go_wp2_with fail
                go_quiet (fail)
                go_wp2_with fail
                go_meet
                exact ⟨E, 6, 1, 3, s.ends, rfl, by omega, by omega, fun _ => ⟨hne.symm, rfl⟩, HO.out.ends, (HS.out.alloc hEw _).drewN _, (HN.out.alloc hEw _).drewN _, fun w' h m hm => (HA.out.step (((HS.out.alloc hEw _).drewN _).trans h) HO.out).c6 m (by omega)⟩
              · rw [hne] at d9
                go_wp2_with fail
                go_quiet (fail)
                go_wp2_with fail
                go_meet
                exact ⟨E, 6, 3, 3, s.ends, rfl, by omega, by omega, fun _ => ⟨hne.symm, rfl⟩, HO.out.ends, (HS.out.alloc hEw _).drewN _, (HN.out.alloc hEw _).drewN _, fun w' h m hm => (HA.out.step (((HS.out.alloc hEw _).drewN _).trans h) HO.out).c6 m hm⟩
            · have h0z : ¬ (k : Int) = 0 := by omega
              have h0b : ((k : Int) == 0) = false := by simp; omega
              go_wp2_with fail
              go_meet
              refine ⟨wc.heap.size, 0, 1, 1, fun _ => t0, rfl, by omega, by omega, fun h => absurd h h0, fun _ => ht0b, HS.out.alloc hEw _, HN.out.alloc hEw _, fun w' h m hm => ?_⟩
              obtain rfl : m = 0 := by omega
              exact h.chg.cell (World.cell?_alloc_at _ _ _ _ rfl) (by simp only []; omega)
          case rest =>
            obtain ⟨b, o, len, cap, tv, rfl, hlc, hcap, hk0, htv, hS4, hN4, hC4⟩ := hcut
            have HK0 := hidden hk0
            have HS4 := hidden hS4
            have HN4 := hidden hN4
            have HC4 := hidden hC4
            have HTV := hidden htv
            clear HN HS HA3 hk0 hS4 hN4 hC4 htv d0 d9 c12 f12 ht0 ht0b hne hEw t0
            obtain ⟨d, hd⟩ : ∃ d, r = d + 1 := ⟨r - 1, by omega⟩
            have hdw : IntKind.u64.wrap ((r : Int) - 1) = (d : Int) := by rw [IntKind.wrap_u64]; omega
            have HD := hidden hd
            clear hd
            go_wp2_with fail
            go_loopg [73] len (fun g iv wr => ∃ (i : Nat) (near' : Nat → Nat), g + i = len ∧ iv = .int .i64 i ∧ Step E wc wr ∧ Nr wr E al near' ∧ (∀ j, near j % 2 = 1 → near' j % 2 = 1) ∧ (k = 0 → ∀ m, m < i → near' (tv m / 72057594037927936) % 2 = 1))
            case atStart => exact ⟨0, near, by omega, rfl, Step.refl _ _, HN4.out, fun _ h => h, fun _ m h => absurd h (by omega)⟩
            case round =>
              obtain ⟨i, near', hgi, rfl, hS5, hN5, hM5, hK5⟩ := hrel
              have HS5 := hidden hS5
              have HN5 := hidden hN5
              have HM5 := hidden hM5
              have HK5 := hidden hK5
              clear hN5 hM5 hK5
              by_cases hi : i < len
              · have hiz : (i : Int) < (len : Int) := by omega
                have hci := HC4.out wr hS5 i hi
                have htb := HTV.out i
                clear hS5
                obtain ⟨t, ht⟩ : ∃ t, tv i = t := ⟨_, rfl⟩
                rw [ht] at hci htb
                obtain ⟨f, hf⟩ : ∃ f, (t + (18446744073709551616 - (r - 1))) % 18446744073709551616 / 72057594037927936 = f := ⟨_, rfl⟩
                obtain ⟨l, hl⟩ : ∃ l, (t + (r - 1)) % 18446744073709551616 / 72057594037927936 = l := ⟨_, rfl⟩
                have hd := HD.out
                obtain ⟨n, hn⟩ : ∃ n, (l + 256 - f) % 256 + 1 = n := ⟨_, rfl⟩
                have HCM := hidden (cell_mark t r f l n htb hr1 (by omega) hf hl hn)
                have fz : IntKind.u64.wrap ((t : Int) - d) / 72057594037927936 = (f : Int) := by rw [IntKind.wrap_u64]; omega
                have lz : IntKind.u64.wrap ((t : Int) + d) / 72057594037927936 = (l : Int) := by rw [IntKind.wrap_u64]; omega
                have hfb : f < 256 := by omega
                have hlb : l < 256 := by omega
                have hnb : n ≤ 256 := by omega
                have nz : IntKind.u64.wrap ((IntKind.u64.wrap ((l : Int) - f)).tmod 256 + 1) = (n : Int) := by
                  rw [IntKind.wrap_u64, IntKind.wrap_u64, Int.tmod_eq_emod_of_nonneg (by omega)]
                  omega
                have HTI := hidden ht
                clear hf hl ht hd
                go_wp2_with fail
                go_loopg [92] n (fun g iv wr => ∃ (c : Nat) (nr : Nat → Nat), g + c = n ∧ iv = .int .u64 c ∧ Step E wc wr ∧ Nr wr E al nr ∧ (∀ j, near' j % 2 = 1 → nr j % 2 = 1) ∧ (k = 0 → ∀ c', c' < c → nr ((f + c') % 256) % 2 = 1))
                case atStart => exact ⟨0, near', by omega, rfl, HS5.out, HN5.out, fun _ h => h, fun _ m h => absurd h (by omega)⟩
                case round =>
                  obtain ⟨c, nr, hgc, rfl, hS6, hN6, hM6, hK6⟩ := hrel
                  have HS6 := hidden hS6
                  have HN6 := hidden hN6
                  have HM6 := hidden hM6
                  have HK6 := hidden hK6
                  clear hM6 hK6 hS6
                  by_cases hc : c < n
                  · have hcz : (c : Int) < (n : Int) := by omega
                    obtain ⟨j, hj⟩ : ∃ j, (f + c) % 256 = j := ⟨_, rfl⟩
                    have hjb : j < 256 := by omega
                    have hjz : (j : Int) < 256 := by omega
                    have jz : (IntKind.u64.wrap ((f : Int) + c)).tmod 256 = (j : Int) := by
                      rw [IntKind.wrap_u64, Int.tmod_eq_emod_of_nonneg (by omega)]
                      omega
                    have hcj := hN6.n j hjb
                    have hfj := hN6.f (13 + j)
                    have oa := u32_or_nat (nr j) p (hN6.nb j) hpb
                    have ob := or_lt32 (hN6.nb j) hpb
                    have od := hidden (or_odd (nr j) p)
                    obtain ⟨x, hx⟩ : ∃ x, nr j = x := ⟨_, rfl⟩
                    rw [hx] at oa ob od hcj
                    obtain ⟨y, hy⟩ : ∃ y, x ||| p = y := ⟨_, rfl⟩
                    rw [hy] at oa ob od
                    have HX := hidden hx
                    have HJ := hidden hj
                    clear hx hy hN6 hj
                    go_wp2_with fail
                    go_region
                    go_wp2_with fail
                    go_roundg (n - (c + 1))
                    case measure => omega
                    case rel =>
                      simp only [hpz', oa]
                      refine ⟨c + 1, _, by omega, by go_num, (HS6.out.set (13 + j) (by omega) _).drew, (HN6.out.set j y hjb ob).drew, fun i h => ?_, fun h0 c' hc' => ?_⟩
                      · show (if i = j then y else nr i) % 2 = 1
                        have := HM6.out i h
                        split
                        · rename_i e
                          rw [e, HX.out] at this
                          exact od.out.2 (.inl this)
                        · exact this
                      · show (if (f + c') % 256 = j then y else nr ((f + c') % 256)) % 2 = 1
                        split
                        · exact od.out.2 (.inr (by rw [HP.out h0]))
                        · rename_i e
                          refine HK6.out h0 c' ?_
                          have := HJ.out
                          apply Nat.lt_of_le_of_ne (by omega)
                          intro e2
                          rw [e2] at e
                          exact e this
                  · obtain rfl : c = n := by omega
                    have hcz : ¬ ((c : Int) < (c : Int)) := by omega
                    clear hN6
                    go_wp2_with fail
                    go_roundg (len - (i + 1))
                    case measure => omega
                    case rel =>
                      refine ⟨i + 1, nr, by omega, by go_num, HS6.out, HN6.out, fun j h => HM6.out j (HM5.out j h), fun h0 m hm => ?_⟩
                      by_cases e : m = i
                      · subst e
                        rw [HTI.out]
                        obtain ⟨c', h1, h2⟩ := HCM.out
                        rw [← h2]
                        exact HK6.out h0 c' h1
                      · exact HM6.out _ (HK5.out h0 m (by omega))
              · obtain rfl : i = len := by omega
                have hiz : ¬ ((i : Int) < (i : Int)) := by omega
                clear hS5
                go_wp2_with fail
                go_roundg (W + 1 - (k + 1))
                case measure => omega
                case rel =>
                  refine ⟨k + 1, al, near', by omega, by go_num, HS4.out.trans HS5.out, HN5.out, fun _ => ?_⟩
                  by_cases h0 : k = 0
                  · obtain ⟨e1, e2⟩ := HK0.out h0
                    have := HK5.out h0
                    rw [e1, e2] at this
                    exact .inr this
                  · rcases HM.out (by omega) with h | h
                    · exact .inl h
                    · exact .inr fun m hm => HM5.out _ (h m hm)
    · obtain rfl : k = W + 1 := by omega
      have hkz : ¬ ((W : Int) + 1 < (W : Int) + 1) := by omega
      clear hS hN
      go_wp2_with fail
      go_end0
      exact ⟨rfl, HS.out, al, near, HN.out, HM.out (by omega)⟩
end Go.Proofs.YbulkcjdgDoor
