/-
  No cell of these rows narrows 'for every input' (looked for: loops, veiled, ifaces, maps, wideKeys, modest, calm, conditions, laid).
  DERIVED. THE GIVEN ROWS OF THIS SEAT. 3 by the template 'for every input the law returns true; each argument reads behind the call as it read before'; 0 by the template 'total and deterministic' (their statements: YbulkcjdgTotals.lean).
  GIVEN WITH THE SEED: the statements are not yours to turn. If you find one false, say at which input.
  Laid BY PROGRAM, IN A SANDBOX (cutbox-rows.mjs): the forced cells as the released guide's own fill.sh prints them over the translation 3d30863987e89a76… (all of the seat's roots in one cut). By AI agents, Wed Nov 11 2026. No macro, syntax, notation, axiom, sorry.
-/
import Derived.Test.YbulkcjdgChecked
import GoSem.Claim
import GoSem.ClaimJoined
import GoSem.ClaimMapViews
import Derived.JoinedTies
import Derived.KernelRfl
namespace Go.Proofs.Ybulkcjdg
/- THE CELL 'sum', in the pinned program and in every row, IS THE sha256 OF THE DUMP (.gsa) THAT YbulkcjdgProg.lean LOADS. Nothing in Lean hashes anything: it is a label: what it is worth is what the hold of that sum in a sandbox is worth. -/
noncomputable def Yba.pinned : Pinned := { name := "ybulkcjdg", sum := "3d30863987e89a76d01647d6bf97d05fbceaaec3a432affb8fcaefd916144095", checked := Yba.checked }
namespace Rows
def none {H : Type} : Left H := { results := [], args := [] }

/-- 'node.LawS4257AScript': WHATEVER THE INPUT: true; the input reads as it did. -/
def lawS4257AScriptSpec : ChangeSpec := { name := "lawS4257AScript", fn := fun _ => fun
  | [d1, d2] => { results := [.lit (.bool true)], args := [d1, d2] }
  | _ => none }
def lawS4257AScriptRow : OpenClaim := { program := "ybulkcjdg", sum := "3d30863987e89a76d01647d6bf97d05fbceaaec3a432affb8fcaefd916144095", func := "example.com/quorumweave/quorumweave/node.LawS4257AScript", spec := "lawS4257AScript", apart := false }
def LawS4257AScriptSaid : Prop := lawS4257AScriptRow.holds Yba.pinned (OpenSpec.ofChange lawS4257AScriptSpec)

/-- ITS FALSE NEIGHBOUR: 'it returns false'. Refute it at one input. -/
def lawS4257AScriptWrong : ChangeSpec := { name := "lawS4257AScript", fn := fun _ => fun
  | [d1, d2] => { results := [.lit (.bool false)], args := [d1, d2] }
  | _ => none }
def LawS4257AScriptWrongFalsely : Prop := lawS4257AScriptRow.holds Yba.pinned (OpenSpec.ofChange lawS4257AScriptWrong)

/-- 'node.LawS4257ARefresh': WHATEVER THE INPUT: true; the input reads as it did. -/
def lawS4257ARefreshSpec : ChangeSpec := { name := "lawS4257ARefresh", fn := fun _ => fun
  | [d1, d2, d3] => { results := [.lit (.bool true)], args := [d1, d2, d3] }
  | _ => none }
def lawS4257ARefreshRow : OpenClaim := { program := "ybulkcjdg", sum := "3d30863987e89a76d01647d6bf97d05fbceaaec3a432affb8fcaefd916144095", func := "example.com/quorumweave/quorumweave/node.LawS4257ARefresh", spec := "lawS4257ARefresh", apart := false }
def LawS4257ARefreshSaid : Prop := lawS4257ARefreshRow.holds Yba.pinned (OpenSpec.ofChange lawS4257ARefreshSpec)

/-- ITS FALSE NEIGHBOUR: 'it returns false'. Refute it at one input. -/
def lawS4257ARefreshWrong : ChangeSpec := { name := "lawS4257ARefresh", fn := fun _ => fun
  | [d1, d2, d3] => { results := [.lit (.bool false)], args := [d1, d2, d3] }
  | _ => none }
def LawS4257ARefreshWrongFalsely : Prop := lawS4257ARefreshRow.holds Yba.pinned (OpenSpec.ofChange lawS4257ARefreshWrong)

/-- 'sim.LawS4257CTally': WHATEVER THE INPUT: true; the input reads as it did. -/
def lawS4257CTallySpec : ChangeSpec := { name := "lawS4257CTally", fn := fun _ => fun
  | [d1, d2, d3, d4, d5, d6, d7, d8, d9, d10, d11] => { results := [.lit (.bool true)], args := [d1, d2, d3, d4, d5, d6, d7, d8, d9, d10, d11] }
  | _ => none }
def lawS4257CTallyRow : OpenClaim := { program := "ybulkcjdg", sum := "3d30863987e89a76d01647d6bf97d05fbceaaec3a432affb8fcaefd916144095", func := "example.com/quorumweave/quorumweave/sim.LawS4257CTally", spec := "lawS4257CTally", unfollowed := true, recurses := true, apart := false }
def LawS4257CTallySaid : Prop := lawS4257CTallyRow.holds Yba.pinned (OpenSpec.ofChange lawS4257CTallySpec)

/-- ITS FALSE NEIGHBOUR: 'it returns false'. Refute it at one input. -/
def lawS4257CTallyWrong : ChangeSpec := { name := "lawS4257CTally", fn := fun _ => fun
  | [d1, d2, d3, d4, d5, d6, d7, d8, d9, d10, d11] => { results := [.lit (.bool false)], args := [d1, d2, d3, d4, d5, d6, d7, d8, d9, d10, d11] }
  | _ => none }
def LawS4257CTallyWrongFalsely : Prop := lawS4257CTallyRow.holds Yba.pinned (OpenSpec.ofChange lawS4257CTallyWrong)

end Rows
end Go.Proofs.Ybulkcjdg
