/-
  DERIVED. GIVEN WITH THE SEED: THE CARDS: each row of YbulkaukFmtRows.lean that lists a variable, with what it lists TIED to the program's text (the seventh form; the later family's looks); each row that meets fmt, with fmt's text TOLD by the authors' own Lean function (tested against real Go, not proved from fmt's source: count such statements apart). THE CARD IS WHAT COUNTS. Prove the row's statement (the work); the ties are given (YbulkaukFmtTie.lean); close each card by the builder's one call (the guide's Derived/Test/ToyasCard.lean, 'card_holds'). Laid BY PROGRAM, IN A SANDBOX (cutbox-door.mjs). By AI agents, Wed Nov 11 2026. No macro, syntax, notation, axiom, sorry.
-/
import Derived.Test.YbulkaukFmtRows
import GoSem.ClaimSeven
namespace Go.Proofs.YbulkaukFmt
namespace Rows

/-- THE TOLD CARD OF 'bench.LawS0088AExact'. -/
def lawS0088AExactCard : Claim7 := { stood := { row := lawS0088AExactRow, standIns := [], harness := (true, "fb4987ace43e85ff1e090e5faa82a520a88066a3733be4b8f73164040c242a9e"), looks := false }, told := true, goes := false }
def LawS0088AExactToldSaid : Prop := Claim7.holds Ybaf.pinned (.plain (OpenSpec.ofChange lawS0088AExactSpec)) lawS0088AExactCard
/-- ITS FALSE NEIGHBOUR. Refute it at one input. -/
def LawS0088AExactToldWrongFalsely : Prop := Claim7.holds Ybaf.pinned (.plain (OpenSpec.ofChange lawS0088AExactWrong)) lawS0088AExactCard

/-- THE TOLD CARD OF 'bench.LawS0088ALoad'. -/
def lawS0088ALoadCard : Claim7 := { stood := { row := lawS0088ALoadRow, standIns := [], harness := (true, "fb4987ace43e85ff1e090e5faa82a520a88066a3733be4b8f73164040c242a9e"), looks := false }, told := true, goes := false }
def LawS0088ALoadToldSaid : Prop := Claim7.holds Ybaf.pinned (.plain (OpenSpec.ofChange lawS0088ALoadSpec)) lawS0088ALoadCard
/-- ITS FALSE NEIGHBOUR. Refute it at one input. -/
def LawS0088ALoadToldWrongFalsely : Prop := Claim7.holds Ybaf.pinned (.plain (OpenSpec.ofChange lawS0088ALoadWrong)) lawS0088ALoadCard
end Rows
end Go.Proofs.YbulkaukFmt
