import Derived.Test.YbulkcjcsProg
import Derived.Test.YbulkcjcsPlain
import Derived.WalkKit
import Derived.WalkSpells
import Derived.Deep.QuietTactic
import Derived.BigQuiet
namespace Go.Proofs.Ybulkcjcs
open Go.RowKit

theorem space_any (c : Int) (w : World) : Calls Yba.prog 9 #[.int .u8 c] w fun e w' => e = .returned (.bool (wsB c)) ∧ w' = w := by
  by_cases h1 : c = 32
  · subst h1
    go_enter Yba.func9, Yba.ntmps9
    go_wp2
    go_ret
    exact ⟨rfl, rfl⟩
  by_cases h2 : c = 9
  · subst h2
    go_enter Yba.func9, Yba.ntmps9
    go_wp2
    go_ret
    exact ⟨rfl, rfl⟩
  by_cases h3 : c = 10
  · subst h3
    go_enter Yba.func9, Yba.ntmps9
    go_wp2
    go_ret
    exact ⟨rfl, rfl⟩
  by_cases h4 : c = 13
  · subst h4
    go_enter Yba.func9, Yba.ntmps9
    go_wp2
    go_ret
    exact ⟨rfl, rfl⟩
  have e1 : (c == 32) = false := by simpa using h1
  have e2 : (c == 9) = false := by simpa using h2
  have e3 : (c == 10) = false := by simpa using h3
  have e4 : (c == 13) = false := by simpa using h4
  have hw : wsB c = false := by simp [wsB, e1, e2, e3, e4]
  have HW : Hid (wsB c = false) := hw
  clear hw h1 h2 h3 h4
  go_enter Yba.func9, Yba.ntmps9
  go_wp2
  go_ret
  rw [HW.out]
  exact ⟨rfl, rfl⟩

theorem ws_any (c : Int) (w : World) : Calls Yba.prog 8 #[.int .u8 c] w fun e w' => e = .returned (.bool (wsB c)) ∧ w' = w := by
  by_cases h1 : c = 32
  · subst h1
    go_enter Yba.func8, Yba.ntmps8
    go_wp2
    go_ret
    exact ⟨rfl, rfl⟩
  by_cases h2 : c = 9
  · subst h2
    go_enter Yba.func8, Yba.ntmps8
    go_wp2
    go_ret
    exact ⟨rfl, rfl⟩
  by_cases h3 : c = 10
  · subst h3
    go_enter Yba.func8, Yba.ntmps8
    go_wp2
    go_ret
    exact ⟨rfl, rfl⟩
  by_cases h4 : c = 13
  · subst h4
    go_enter Yba.func8, Yba.ntmps8
    go_wp2
    go_ret
    exact ⟨rfl, rfl⟩
  have e1 : (c == 32) = false := by simpa using h1
  have e2 : (c == 9) = false := by simpa using h2
  have e3 : (c == 10) = false := by simpa using h3
  have e4 : (c == 13) = false := by simpa using h4
  have hw : wsB c = false := by simp [wsB, e1, e2, e3, e4]
  have HW : Hid (wsB c = false) := hw
  clear hw h1 h2 h3 h4
  go_enter Yba.func8, Yba.ntmps8
  go_wp2
  go_ret
  rw [HW.out]
  exact ⟨rfl, rfl⟩
end Go.Proofs.Ybulkcjcs
