/-
  NARROWER THAN 'FOR EVERY INPUT', by the rows' own cells (each row's printed sentence says how): LawS4261AText: laid · LawS4261BText: laid.
  DERIVED. THE GIVEN ROWS OF THIS SEAT. 2 by the template 'for every input the law returns true; each argument reads behind the call as it read before'; 0 by the template 'total and deterministic' (their statements: YbulkcjfkDoorTotals.lean).
  GIVEN WITH THE SEED: the statements are not yours to turn. If you find one false, say at which input.
  Laid BY PROGRAM, IN A SANDBOX (cutbox-rows.mjs): the forced cells as the released guide's own fill.sh prints them over the translation 940908f9e1842d38… (all of the seat's roots in one cut). By AI agents, Wed Nov 11 2026. No macro, syntax, notation, axiom, sorry.
-/
import Derived.Test.YbulkcjfkDoorChecked
import GoSem.Claim
import GoSem.ClaimJoined
import GoSem.ClaimMapViews
import Derived.JoinedTies
import Derived.KernelRfl
namespace Go.Proofs.YbulkcjfkDoor
/- THE CELL 'sum', in the pinned program and in every row, IS THE sha256 OF THE DUMP (.gsa) THAT YbulkcjfkDoorProg.lean LOADS. Nothing in Lean hashes anything: it is a label: what it is worth is what the hold of that sum in a sandbox is worth. -/
noncomputable def Ybad.pinned : Pinned := { name := "ybulkcjfkdoor", sum := "940908f9e1842d3854e0d983d55b939b72090fe4c7903e078a2037114635979c", checked := Ybad.checked }
namespace Rows
def none {H : Type} : Left H := { results := [], args := [] }

/- WHAT THE LISTED PACKAGE-LEVEL VARIABLES READ AS WHEN THE CALL BEGINS. Each datum BY PROGRAM (the guide's laid-datum.mjs) off the statement by which the dump's own 'gosem.cut.vars' lays the variable. In a bare row this is a premise. The card (YbulkcjfkDoorCards.lean) ties it to the program's text. -/
def laid_bytes_ErrTooLarge {H : Type} : DataW H := .iface "*errors.errorString" (.ptr (.agg [.lit (.string [98, 121, 116, 101, 115, 46, 66, 117, 102, 102, 101, 114, 58, 32, 116, 111, 111, 32, 108, 97, 114, 103, 101])]))

/-- 'gen.LawS4261AText': WHATEVER THE INPUT: true; the input reads as it did. -/
def lawS4261ATextSpec : ChangeSpec := { name := "lawS4261AText", fn := fun _ => fun
  | [d1, d2] => { results := [.lit (.bool true)], args := [d1, d2] }
  | _ => none }
def lawS4261ATextRow : OpenClaim := { program := "ybulkcjfkdoor", sum := "940908f9e1842d3854e0d983d55b939b72090fe4c7903e078a2037114635979c", func := "example.com/wireloom/wireloom/internal/gen.LawS4261AText", spec := "lawS4261AText", named := ["bytes.ErrTooLarge"], apart := false, laid := [("bytes.ErrTooLarge", laid_bytes_ErrTooLarge)] }
def LawS4261ATextSaid : Prop := lawS4261ATextRow.holds Ybad.pinned (OpenSpec.ofChange lawS4261ATextSpec)

/-- ITS FALSE NEIGHBOUR: 'it returns false'. Refute it at one input. -/
def lawS4261ATextWrong : ChangeSpec := { name := "lawS4261AText", fn := fun _ => fun
  | [d1, d2] => { results := [.lit (.bool false)], args := [d1, d2] }
  | _ => none }
def LawS4261ATextWrongFalsely : Prop := lawS4261ATextRow.holds Ybad.pinned (OpenSpec.ofChange lawS4261ATextWrong)

/-- 'gen.LawS4261BText': WHATEVER THE INPUT: true; the input reads as it did. -/
def lawS4261BTextSpec : ChangeSpec := { name := "lawS4261BText", fn := fun _ => fun
  | [d1, d2, d3, d4, d5, d6, d7, d8, d9, d10, d11, d12] => { results := [.lit (.bool true)], args := [d1, d2, d3, d4, d5, d6, d7, d8, d9, d10, d11, d12] }
  | _ => none }
def lawS4261BTextRow : OpenClaim := { program := "ybulkcjfkdoor", sum := "940908f9e1842d3854e0d983d55b939b72090fe4c7903e078a2037114635979c", func := "example.com/wireloom/wireloom/internal/gen.LawS4261BText", spec := "lawS4261BText", named := ["bytes.ErrTooLarge"], apart := false, laid := [("bytes.ErrTooLarge", laid_bytes_ErrTooLarge)] }
def LawS4261BTextSaid : Prop := lawS4261BTextRow.holds Ybad.pinned (OpenSpec.ofChange lawS4261BTextSpec)

/-- ITS FALSE NEIGHBOUR: 'it returns false'. Refute it at one input. -/
def lawS4261BTextWrong : ChangeSpec := { name := "lawS4261BText", fn := fun _ => fun
  | [d1, d2, d3, d4, d5, d6, d7, d8, d9, d10, d11, d12] => { results := [.lit (.bool false)], args := [d1, d2, d3, d4, d5, d6, d7, d8, d9, d10, d11, d12] }
  | _ => none }
def LawS4261BTextWrongFalsely : Prop := lawS4261BTextRow.holds Ybad.pinned (OpenSpec.ofChange lawS4261BTextWrong)

end Rows
end Go.Proofs.YbulkcjfkDoor
