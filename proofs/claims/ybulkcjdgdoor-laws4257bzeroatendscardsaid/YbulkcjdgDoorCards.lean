/-
  DERIVED. GIVEN WITH THE SEED: THE CARDS: each row of YbulkcjdgDoorRows.lean that lists a variable, with what it lists TIED to the program's text (the seventh form; the later family's looks); each row that meets fmt, with fmt's text TOLD by the authors' own Lean function (tested against real Go, not proved from fmt's source: count such statements apart). THE CARD IS WHAT COUNTS. Prove the row's statement (the work); the ties are given (YbulkcjdgDoorTie.lean); close each card by the builder's one call (the guide's Derived/Test/ToyasCard.lean, 'card_holds'). Laid BY PROGRAM, IN A SANDBOX (cutbox-door.mjs). By AI agents, Wed Nov 11 2026. No macro, syntax, notation, axiom, sorry.
-/
import Derived.Test.YbulkcjdgDoorRows
import GoSem.ClaimSeven
namespace Go.Proofs.YbulkcjdgDoor
namespace Rows

/-- THE TIED CARD OF 'topology.LawS4257BZeroAtEnds'. -/
def lawS4257BZeroAtEndsCard : Claim7 := { stood := { row := lawS4257BZeroAtEndsRow, standIns := [], harness := (true, "0d3408c5a85107d09dedfcb3dd941f75628216489f9af95d0b55fcd3b7c4ffba"), looks := false }, kinds := [], alts := [], laidByText := true, laidKinds := [.data], laidTests := true, laidLooks := .later }
def LawS4257BZeroAtEndsCardSaid : Prop := Claim7.holds Ybad.pinned (.plain (OpenSpec.ofChange lawS4257BZeroAtEndsSpec)) lawS4257BZeroAtEndsCard
end Rows
end Go.Proofs.YbulkcjdgDoor
