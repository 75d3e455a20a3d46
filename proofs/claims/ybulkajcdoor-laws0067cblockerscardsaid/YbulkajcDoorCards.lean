/-
  DERIVED. GIVEN WITH THE SEED: THE CARDS: each row of YbulkajcDoorRows.lean that lists a variable, with what it lists TIED to the program's text (the seventh form; the later family's looks); each row that meets fmt, with fmt's text TOLD by the authors' own Lean function (tested against real Go, not proved from fmt's source: count such statements apart). THE CARD IS WHAT COUNTS. Prove the row's statement (the work); the ties are given (YbulkajcDoorTie.lean); close each card by the builder's one call (the guide's Derived/Test/ToyasCard.lean, 'card_holds'). Laid BY PROGRAM, IN A SANDBOX (cutbox-door.mjs). By AI agents, Wed Nov 11 2026. No macro, syntax, notation, axiom, sorry.
-/
import Derived.Test.YbulkajcDoorRows
import GoSem.ClaimSeven
namespace Go.Proofs.YbulkajcDoor
namespace Rows

/-- THE TIED CARD OF 'keyfence.LawS0067CBlockers'. -/
def lawS0067CBlockersCard : Claim7 := { stood := { row := lawS0067CBlockersRow, standIns := [], harness := (true, "79490115add4498c2632a3abcbd8acc7a4d62208b89fb23fc612917e1ae9e5f9"), looks := true }, kinds := [], alts := [], laidByText := true, laidKinds := [.data, .data], laidTests := true, laidLooks := .later }
def LawS0067CBlockersCardSaid : Prop := Claim7.holds Ybad.pinned (.plain (OpenSpec.ofChange lawS0067CBlockersSpec)) lawS0067CBlockersCard
end Rows
end Go.Proofs.YbulkajcDoor
