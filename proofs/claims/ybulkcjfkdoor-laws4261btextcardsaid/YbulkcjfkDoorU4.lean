import Derived.Test.YbulkcjfkDoorU3
namespace Go.Proofs.YbulkcjfkDoor
open Go.RowKit Go.Deep
set_option linter.unusedVariables false
set_option linter.unusedSimpArgs false

/-- The getter's text. -/
def getText (mN fN g z d oN wr : List UInt8) (rep pr on zn dn : Bool) : List UInt8 :=
  [10] ++ ([102, 117, 110, 99, 32, 40, 109, 32, 42] ++ mN ++ [41, 32, 71, 101, 116] ++ fN ++ [40, 41, 32] ++ (if rep then [91, 93] ++ g else g) ++ [32, 123] ++ [10]) ++
  ((if on then [105, 102, 32, 120, 44, 32, 111, 107, 32, 58, 61, 32, 109, 46, 71, 101, 116] ++ oN ++ [40, 41, 46, 40, 42] ++ wr ++ [41, 59, 32, 111, 107, 32, 38, 38, 32, 120, 32, 33, 61, 32, 110, 105, 108, 32, 123] else if pr then [105, 102, 32, 109, 32, 33, 61, 32, 110, 105, 108, 32, 38, 38, 32, 109, 46] ++ fN ++ [32, 33, 61, 32, 110, 105, 108, 32, 123] else [105, 102, 32, 109, 32, 33, 61, 32, 110, 105, 108, 32, 123]) ++ [10]) ++
  ([114, 101, 116, 117, 114, 110, 32] ++ (if on then [120, 46] else if pr && !zn then [42, 109, 46] else [109, 46]) ++ fN ++ [10]) ++ ([125] ++ [10]) ++
  ((if rep then [114, 101, 116, 117, 114, 110, 32, 110, 105, 108] else if dn && zn then [114, 101, 116, 117, 114, 110, 32, 97, 112, 112, 101, 110, 100, 40] ++ g ++ [40, 110, 105, 108, 41, 44, 32] ++ d ++ [46, 46, 46, 41] else if dn then [114, 101, 116, 117, 114, 110, 32] ++ d else [114, 101, 116, 117, 114, 110, 32] ++ z) ++ [10]) ++ ([125] ++ [10])

set_option maxRecDepth 100000 in
set_option maxHeartbeats 2000000 in
theorem model_any (mN fN g z d oN wr : ByteArray) (rep pr on zn dn : Bool) (w : World) (h1 : mN.size ≤ 4096) (h2 : fN.size ≤ 4096) (h3 : g.size ≤ 4096) (h4 : z.size ≤ 4096) (h5 : d.size ≤ 4096) (h6 : oN.size ≤ 4096) (h7 : wr.size ≤ 4096)
    (hz : (z.toList == [110, 105, 108]) = zn) (hz' : (z.toList != [110, 105, 108]) = !zn) (hd0 : dn = false → d.toList = []) (hd1 : dn = true → ¬ d.toList = [] ∧ d.toList.isEmpty = false) :
    Calls Ybad.prog 10 #[.string mN, .string fN, .string g, .string z, .string d, .string oN, .string wr, .bool rep, .bool pr, .bool on] w fun e w' => ∃ r : ByteArray, e = .returned (.string r) ∧ w' = w ∧ r.data.toList = getText mN.data.toList fN.data.toList g.data.toList z.data.toList d.data.toList oN.data.toList wr.data.toList rep pr on zn dn := by
  cases dn
  · have hE := hd0 rfl
    clear hd0 hd1
    cases zn <;> simp only [Bool.not_false, Bool.not_true] at hz' <;> cases rep <;> cases on <;> cases pr <;>
      (go_enter Ybad.func10, Ybad.ntmps10
       go_wp2_with fail
       go_ret
       exact ⟨_, rfl, rfl, by simp [getText, ByteArray.data_append]⟩)
  · obtain ⟨hE, hI⟩ := hd1 rfl
    clear hd0 hd1
    cases zn <;> simp only [Bool.not_false, Bool.not_true] at hz' <;> cases rep <;> cases on <;> cases pr <;>
      (go_enter Ybad.func10, Ybad.ntmps10
       go_wp2_with fail
       go_ret
       exact ⟨_, rfl, rfl, by simp [getText, ByteArray.data_append]⟩)
end Go.Proofs.YbulkcjfkDoor
