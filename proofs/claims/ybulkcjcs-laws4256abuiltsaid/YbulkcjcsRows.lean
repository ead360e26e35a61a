/-
  No cell of these rows narrows 'for every input' (looked for: loops, veiled, ifaces, maps, wideKeys, modest, calm, conditions, laid).
  DERIVED. THE GIVEN ROWS OF THIS SEAT. 2 by the template 'for every input the law returns true; each argument reads behind the call as it read before'; 0 by the template 'total and deterministic' (their statements: YbulkcjcsTotals.lean).
  GIVEN WITH THE SEED: the statements are not yours to turn. If you find one false, say at which input.
  Laid BY PROGRAM, IN A SANDBOX (cutbox-rows.mjs): the forced cells as the released guide's own fill.sh prints them over the translation aa046270610fca11… (all of the seat's roots in one cut). By AI agents, Wed Nov 11 2026. No macro, syntax, notation, axiom, sorry.
-/
import Derived.Test.YbulkcjcsChecked
import GoSem.Claim
import GoSem.ClaimJoined
import GoSem.ClaimMapViews
import Derived.JoinedTies
import Derived.KernelRfl
namespace Go.Proofs.Ybulkcjcs
/- THE CELL 'sum', in the pinned program and in every row, IS THE sha256 OF THE DUMP (.gsa) THAT YbulkcjcsProg.lean LOADS. Nothing in Lean hashes anything: it is a label: what it is worth is what the hold of that sum in a sandbox is worth. -/
noncomputable def Yba.pinned : Pinned := { name := "ybulkcjcs", sum := "aa046270610fca11edf2a9c9c451f463a0a5f14f326c60eb6a74d01765c27fbf", checked := Yba.checked }
namespace Rows
def none {H : Type} : Left H := { results := [], args := [] }

/-- 'contract.LawS4256ARaw': WHATEVER THE INPUT: true; the input reads as it did. -/
def lawS4256ARawSpec : ChangeSpec := { name := "lawS4256ARaw", fn := fun _ => fun
  | [d1, d2] => { results := [.lit (.bool true)], args := [d1, d2] }
  | _ => none }
def lawS4256ARawRow : OpenClaim := { program := "ybulkcjcs", sum := "aa046270610fca11edf2a9c9c451f463a0a5f14f326c60eb6a74d01765c27fbf", func := "example.com/tuoguan/tuoguan/internal/contract.LawS4256ARaw", spec := "lawS4256ARaw", apart := false }
def LawS4256ARawSaid : Prop := lawS4256ARawRow.holds Yba.pinned (OpenSpec.ofChange lawS4256ARawSpec)

/-- ITS FALSE NEIGHBOUR: 'it returns false'. Refute it at one input. -/
def lawS4256ARawWrong : ChangeSpec := { name := "lawS4256ARaw", fn := fun _ => fun
  | [d1, d2] => { results := [.lit (.bool false)], args := [d1, d2] }
  | _ => none }
def LawS4256ARawWrongFalsely : Prop := lawS4256ARawRow.holds Yba.pinned (OpenSpec.ofChange lawS4256ARawWrong)

/-- 'contract.LawS4256ABuilt': WHATEVER THE INPUT: true; the input reads as it did. -/
def lawS4256ABuiltSpec : ChangeSpec := { name := "lawS4256ABuilt", fn := fun _ => fun
  | [d1, d2] => { results := [.lit (.bool true)], args := [d1, d2] }
  | _ => none }
def lawS4256ABuiltRow : OpenClaim := { program := "ybulkcjcs", sum := "aa046270610fca11edf2a9c9c451f463a0a5f14f326c60eb6a74d01765c27fbf", func := "example.com/tuoguan/tuoguan/internal/contract.LawS4256ABuilt", spec := "lawS4256ABuilt", apart := false }
def LawS4256ABuiltSaid : Prop := lawS4256ABuiltRow.holds Yba.pinned (OpenSpec.ofChange lawS4256ABuiltSpec)

/-- ITS FALSE NEIGHBOUR: 'it returns false'. Refute it at one input. -/
def lawS4256ABuiltWrong : ChangeSpec := { name := "lawS4256ABuilt", fn := fun _ => fun
  | [d1, d2] => { results := [.lit (.bool false)], args := [d1, d2] }
  | _ => none }
def LawS4256ABuiltWrongFalsely : Prop := lawS4256ABuiltRow.holds Yba.pinned (OpenSpec.ofChange lawS4256ABuiltWrong)

end Rows
end Go.Proofs.Ybulkcjcs
