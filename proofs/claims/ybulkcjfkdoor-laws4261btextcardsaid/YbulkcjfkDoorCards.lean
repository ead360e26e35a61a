/-
  DERIVED. GIVEN WITH THE SEED: THE CARDS: each row of YbulkcjfkDoorRows.lean that lists a variable, with what it lists TIED to the program's text (the seventh form; the later family's looks); each row that meets fmt, with fmt's text TOLD by the authors' own Lean function (tested against real Go, not proved from fmt's source: count such statements apart). THE CARD IS WHAT COUNTS. Prove the row's statement (the work); the ties are given (YbulkcjfkDoorTie.lean); close each card by the builder's one call (the guide's Derived/Test/ToyasCard.lean, 'card_holds'). Laid BY PROGRAM, IN A SANDBOX (cutbox-door.mjs). By AI agents, Wed Nov 11 2026. No macro, syntax, notation, axiom, sorry.
-/
import Derived.Test.YbulkcjfkDoorRows
import GoSem.ClaimSeven
namespace Go.Proofs.YbulkcjfkDoor
namespace Rows

/-- THE TIED CARD OF 'gen.LawS4261AText'. -/
def lawS4261ATextCard : Claim7 := { stood := { row := lawS4261ATextRow, standIns := [], harness := (true, "6f03734fcbd0e76bfef4efba1bb8d56e81bd1676a35d8900c86ab6056b8d401a"), looks := false }, kinds := [], alts := [], laidByText := true, laidKinds := [.sentinel], laidTests := true, laidLooks := .later }
def LawS4261ATextCardSaid : Prop := Claim7.holds Ybad.pinned (.plain (OpenSpec.ofChange lawS4261ATextSpec)) lawS4261ATextCard

/-- THE TIED CARD OF 'gen.LawS4261BText'. -/
def lawS4261BTextCard : Claim7 := { stood := { row := lawS4261BTextRow, standIns := [], harness := (true, "6f03734fcbd0e76bfef4efba1bb8d56e81bd1676a35d8900c86ab6056b8d401a"), looks := false }, kinds := [], alts := [], laidByText := true, laidKinds := [.sentinel], laidTests := true, laidLooks := .later }
def LawS4261BTextCardSaid : Prop := Claim7.holds Ybad.pinned (.plain (OpenSpec.ofChange lawS4261BTextSpec)) lawS4261BTextCard
end Rows
end Go.Proofs.YbulkcjfkDoor
