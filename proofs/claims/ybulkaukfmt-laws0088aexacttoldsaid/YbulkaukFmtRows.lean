/-
  No cell of these rows narrows 'for every input' (looked for: loops, veiled, ifaces, maps, wideKeys, modest, calm, conditions, laid).
  DERIVED. THE GIVEN ROWS OF THIS SEAT. 2 by the template 'for every input the law returns true; each argument reads behind the call as it read before'; 0 by the template 'total and deterministic' (their statements: YbulkaukFmtTotals.lean).
  GIVEN WITH THE SEED: the statements are not yours to turn. If you find one false, say at which input.
  Laid BY PROGRAM, IN A SANDBOX (cutbox-rows.mjs): the forced cells as the released guide's own fill.sh prints them over the translation 57427c7cabc840ac… (all of the seat's roots in one cut). By AI agents, Wed Nov 11 2026. No macro, syntax, notation, axiom, sorry.
-/
import Derived.Test.YbulkaukFmtChecked
import GoSem.Claim
import GoSem.ClaimJoined
import GoSem.ClaimMapViews
import Derived.JoinedTies
import Derived.KernelRfl
namespace Go.Proofs.YbulkaukFmt
/- THE CELL 'sum', in the pinned program and in every row, IS THE sha256 OF THE DUMP (.gsa) THAT YbulkaukFmtProg.lean LOADS. Nothing in Lean hashes anything: it is a label: what it is worth is what the hold of that sum in a sandbox is worth. -/
noncomputable def Ybaf.pinned : Pinned := { name := "ybulkaukfmt", sum := "57427c7cabc840acc48a70a5eac4bc43f6039240dc87b7742c69f99755d6ff32", checked := Ybaf.checked }
namespace Rows
def none {H : Type} : Left H := { results := [], args := [] }

/-- 'bench.LawS0088AExact': WHATEVER THE INPUT: true; the input reads as it did. -/
def lawS0088AExactSpec : ChangeSpec := { name := "lawS0088AExact", fn := fun _ => fun
  | [d1, d2, d3, d4, d5, d6] => { results := [.lit (.bool true)], args := [d1, d2, d3, d4, d5, d6] }
  | _ => none }
def lawS0088AExactRow : OpenClaim := { program := "ybulkaukfmt", sum := "57427c7cabc840acc48a70a5eac4bc43f6039240dc87b7742c69f99755d6ff32", func := "example.com/serialine/serialine/internal/bench.LawS0088AExact", spec := "lawS0088AExact", stops := ["fmt.errorf, its operands' methods called"], inPlace := ["fmt.errorf"], unfollowed := true, recurses := true, apart := false }
/-- NO THEOREM (fmt's text is open here; it may be false): for the released tool's asking of the row's closed facts alone. THE STATEMENT IS 'LawS0088AExactToldSaid' (YbulkaukFmtCards.lean). -/
def LawS0088AExactFormAsk : Prop := lawS0088AExactRow.holds Ybaf.pinned (OpenSpec.ofChange lawS0088AExactSpec)

/-- ITS FALSE NEIGHBOUR: 'it returns false'. Refute it at one input. -/
def lawS0088AExactWrong : ChangeSpec := { name := "lawS0088AExact", fn := fun _ => fun
  | [d1, d2, d3, d4, d5, d6] => { results := [.lit (.bool false)], args := [d1, d2, d3, d4, d5, d6] }
  | _ => none }
def LawS0088AExactWrongFormAsk : Prop := lawS0088AExactRow.holds Ybaf.pinned (OpenSpec.ofChange lawS0088AExactWrong)

/-- 'bench.LawS0088ALoad': WHATEVER THE INPUT: true; the input reads as it did. -/
def lawS0088ALoadSpec : ChangeSpec := { name := "lawS0088ALoad", fn := fun _ => fun
  | [d1, d2, d3, d4] => { results := [.lit (.bool true)], args := [d1, d2, d3, d4] }
  | _ => none }
def lawS0088ALoadRow : OpenClaim := { program := "ybulkaukfmt", sum := "57427c7cabc840acc48a70a5eac4bc43f6039240dc87b7742c69f99755d6ff32", func := "example.com/serialine/serialine/internal/bench.LawS0088ALoad", spec := "lawS0088ALoad", stops := ["fmt.errorf, its operands' methods called"], inPlace := ["fmt.errorf"], unfollowed := true, recurses := true, apart := false }
/-- NO THEOREM (fmt's text is open here; it may be false): for the released tool's asking of the row's closed facts alone. THE STATEMENT IS 'LawS0088ALoadToldSaid' (YbulkaukFmtCards.lean). -/
def LawS0088ALoadFormAsk : Prop := lawS0088ALoadRow.holds Ybaf.pinned (OpenSpec.ofChange lawS0088ALoadSpec)

/-- ITS FALSE NEIGHBOUR: 'it returns false'. Refute it at one input. -/
def lawS0088ALoadWrong : ChangeSpec := { name := "lawS0088ALoad", fn := fun _ => fun
  | [d1, d2, d3, d4] => { results := [.lit (.bool false)], args := [d1, d2, d3, d4] }
  | _ => none }
def LawS0088ALoadWrongFormAsk : Prop := lawS0088ALoadRow.holds Ybaf.pinned (OpenSpec.ofChange lawS0088ALoadWrong)

end Rows
end Go.Proofs.YbulkaukFmt
