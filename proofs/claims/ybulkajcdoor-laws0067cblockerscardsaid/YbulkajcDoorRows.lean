/-
  NARROWER THAN 'FOR EVERY INPUT', by the rows' own cells (each row's printed sentence says how): LawS0067CBlockers: laid.
  DERIVED. THE GIVEN ROWS OF THIS SEAT. 1 by the template 'for every input the law returns true; each argument reads behind the call as it read before'; 0 by the template 'total and deterministic' (their statements: YbulkajcDoorTotals.lean).
  GIVEN WITH THE SEED: the statements are not yours to turn. If you find one false, say at which input.
  Laid BY PROGRAM, IN A SANDBOX (cutbox-rows.mjs): the forced cells as the released guide's own fill.sh prints them over the translation ad22e418b4229a60… (all of the seat's roots in one cut). By AI agents, Wed Nov 11 2026. No macro, syntax, notation, axiom, sorry.
-/
import Derived.Test.YbulkajcDoorChecked
import GoSem.Claim
import GoSem.ClaimJoined
import GoSem.ClaimMapViews
import Derived.JoinedTies
import Derived.KernelRfl
namespace Go.Proofs.YbulkajcDoor
/- THE CELL 'sum', in the pinned program and in every row, IS THE sha256 OF THE DUMP (.gsa) THAT YbulkajcDoorProg.lean LOADS. Nothing in Lean hashes anything: it is a label: what it is worth is what the hold of that sum in a sandbox is worth. -/
noncomputable def Ybad.pinned : Pinned := { name := "ybulkajcdoor", sum := "ad22e418b4229a6054080c930af2eb30c4fa35eb1d7088a7cbec482630e10b93", checked := Ybad.checked }
namespace Rows
def none {H : Type} : Left H := { results := [], args := [] }

/- WHAT THE LISTED PACKAGE-LEVEL VARIABLES READ AS WHEN THE CALL BEGINS. Each datum BY PROGRAM (the guide's laid-datum.mjs) off the statement by which the dump's own 'gosem.cut.vars' lays the variable. In a bare row this is a premise. The card (YbulkajcDoorCards.lean) ties it to the program's text. -/
def laid_example_com_keyfence_keyfence_modesCompatible {H : Type} : DataW H := .agg [.agg [.lit (.bool true), .lit (.bool true), .lit (.bool true), .lit (.bool false), .lit (.bool true)], .agg [.lit (.bool true), .lit (.bool true), .lit (.bool false), .lit (.bool false), .lit (.bool true)], .agg [.lit (.bool true), .lit (.bool false), .lit (.bool true), .lit (.bool false), .lit (.bool false)], .agg [.lit (.bool false), .lit (.bool false), .lit (.bool false), .lit (.bool false), .lit (.bool false)], .agg [.lit (.bool true), .lit (.bool true), .lit (.bool false), .lit (.bool false), .lit (.bool false)]]
def laid_example_com_keyfence_keyfence_modeCovers {H : Type} : DataW H := .agg [.agg [.lit (.bool true), .lit (.bool false), .lit (.bool false), .lit (.bool false), .lit (.bool false)], .agg [.lit (.bool true), .lit (.bool true), .lit (.bool false), .lit (.bool false), .lit (.bool false)], .agg [.lit (.bool true), .lit (.bool false), .lit (.bool true), .lit (.bool false), .lit (.bool false)], .agg [.lit (.bool true), .lit (.bool true), .lit (.bool true), .lit (.bool true), .lit (.bool true)], .agg [.lit (.bool false), .lit (.bool false), .lit (.bool false), .lit (.bool false), .lit (.bool true)]]

/-- 'keyfence.LawS0067CBlockers': WHATEVER THE INPUT: true; the input reads as it did. -/
def lawS0067CBlockersSpec : ChangeSpec := { name := "lawS0067CBlockers", vars := ["example.com/keyfence/keyfence.modeCovers", "example.com/keyfence/keyfence.modesCompatible"], fn := fun _ => fun
  | [d1, d2, d3, d4, d5, d6, g1, g2] => { results := [.lit (.bool true)], args := [d1, d2, d3, d4, d5, d6], vars := [g1, g2] }
  | _ => none }
def lawS0067CBlockersRow : OpenClaim := { program := "ybulkajcdoor", sum := "ad22e418b4229a6054080c930af2eb30c4fa35eb1d7088a7cbec482630e10b93", func := "example.com/keyfence/keyfence.LawS0067CBlockers", spec := "lawS0067CBlockers", unfollowed := true, recurses := true, named := ["example.com/keyfence/keyfence.modeCovers", "example.com/keyfence/keyfence.modesCompatible"], plainKeys := false, apart := false, laid := [("example.com/keyfence/keyfence.modesCompatible", laid_example_com_keyfence_keyfence_modesCompatible), ("example.com/keyfence/keyfence.modeCovers", laid_example_com_keyfence_keyfence_modeCovers)] }
def LawS0067CBlockersSaid : Prop := lawS0067CBlockersRow.holds Ybad.pinned (OpenSpec.ofChange lawS0067CBlockersSpec)

/-- ITS FALSE NEIGHBOUR: 'it returns false'. Refute it at one input. -/
def lawS0067CBlockersWrong : ChangeSpec := { name := "lawS0067CBlockers", vars := ["example.com/keyfence/keyfence.modeCovers", "example.com/keyfence/keyfence.modesCompatible"], fn := fun _ => fun
  | [d1, d2, d3, d4, d5, d6, g1, g2] => { results := [.lit (.bool false)], args := [d1, d2, d3, d4, d5, d6], vars := [g1, g2] }
  | _ => none }
def LawS0067CBlockersWrongFalsely : Prop := lawS0067CBlockersRow.holds Ybad.pinned (OpenSpec.ofChange lawS0067CBlockersWrong)

end Rows
end Go.Proofs.YbulkajcDoor
