import Derived.Test.YbulkcjdgDoorZ3
namespace Go.Proofs.YbulkcjdgDoor
open Go.RowKit
set_option linter.unusedVariables false
set_option linter.unusedSimpArgs false

/-- How far t lies from a, up. -/
def up64 (t a : Nat) : Nat := (t + (18446744073709551616 - a)) % 18446744073709551616
theorem up64_wrap (t a : Nat) (ht : t < 18446744073709551616) (ha : a < 18446744073709551616) : IntKind.u64.wrap ((t : Int) - a) = (up64 t a : Nat) := by
  rw [IntKind.wrap_u64, up64]; omega
theorem up64_lt (t a : Nat) : up64 t a < 18446744073709551616 := Nat.mod_lt _ (by decide)

set_option maxRecDepth 100000 in
set_option maxHeartbeats 1000000 in
theorem walkTo_R (R : Int → Prop) (E : Nat) (t a n ts en dn up : Int) (ru rd k : Int) (w : World) (h4 : w.cell? ⟨E, 4, none⟩ = some (.int .i64 ru)) (h5 : w.cell? ⟨E, 5, none⟩ = some (.int .i64 rd))
    (hts : IntKind.u64.wrap (t - a) = ts) (hen : IntKind.u64.wrap (IntKind.u64.wrap (a + n) - 1) = en) (hdn : IntKind.u64.wrap (a - t) = dn) (hup : IntKind.u64.wrap (t - en) = up)
    (HA : Hid (ts < n → R 0)) (HB : Hid (¬ ts < n → R dn ∧ R up ∧ R 18446744073709551615)) :
    Calls Ybad.prog 13 #[.pointer (some ⟨E, 0, none⟩), .int .u64 t, .int .u64 a, .int .u64 n, .int .i64 k] w fun e w' => ∃ d : Int, (∃ v : Value, e = .returned (.tuple #[.int .u64 d, v])) ∧ w' = w ∧ R d := by
  by_cases hh : ts < n
  · have hr := HA.out hh
    go_enter Ybad.func13, Ybad.ntmps13
    go_wp2
    go_ret2
    exact ⟨0, ⟨_, rfl⟩, rfl, hr⟩
  · obtain ⟨r1, r2, r3⟩ := HB.out hh
    have R1 := hidden r1
    have R2 := hidden r2
    have R3 := hidden r3
    clear r1 r2 r3 HA HB
    by_cases c1 : k < rd
    all_goals
      by_cases c2 : a < t
      all_goals
        by_cases c3 : k < ru
        all_goals
          by_cases c4 : t < en
          all_goals
            go_enter Ybad.func13, Ybad.ntmps13
            go_wp2
            all_goals
              go_ret2
              first
                | exact ⟨_, ⟨_, rfl⟩, rfl, R2.out⟩
                | exact ⟨_, ⟨_, rfl⟩, rfl, R1.out⟩
                | exact ⟨_, ⟨_, rfl⟩, rfl, R3.out⟩
end Go.Proofs.YbulkcjdgDoor
