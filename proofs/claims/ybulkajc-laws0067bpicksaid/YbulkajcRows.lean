/-
  No cell of these rows narrows 'for every input' (looked for: loops, veiled, ifaces, maps, wideKeys, modest, calm, conditions, laid).
  DERIVED. THE GIVEN ROWS OF THIS SEAT. 1 by the template 'for every input the law returns true; each argument reads behind the call as it read before'; 0 by the template 'total and deterministic' (their statements: YbulkajcTotals.lean).
  GIVEN WITH THE SEED: the statements are not yours to turn. If you find one false, say at which input.
  Laid BY PROGRAM, IN A SANDBOX (cutbox-rows.mjs): the forced cells as the released guide's own fill.sh prints them over the translation 876d417055162165… (all of the seat's roots in one cut). By AI agents, Wed Nov 11 2026. No macro, syntax, notation, axiom, sorry.
-/
import Derived.Test.YbulkajcChecked
import GoSem.Claim
import GoSem.ClaimJoined
import GoSem.ClaimMapViews
import Derived.JoinedTies
import Derived.KernelRfl
namespace Go.Proofs.Ybulkajc
/- THE CELL 'sum', in the pinned program and in every row, IS THE sha256 OF THE DUMP (.gsa) THAT YbulkajcProg.lean LOADS. Nothing in Lean hashes anything: it is a label: what it is worth is what the hold of that sum in a sandbox is worth. -/
noncomputable def Yba.pinned : Pinned := { name := "ybulkajc", sum := "876d41705516216587cafaf06b9331ea80ee0f03a2e1ffe557b534d48c9f8ea4", checked := Yba.checked }
namespace Rows
def none {H : Type} : Left H := { results := [], args := [] }

/-- 'keyfence.LawS0067BPick': WHATEVER THE INPUT: true; the input reads as it did. -/
def lawS0067BPickSpec : ChangeSpec := { name := "lawS0067BPick", fn := fun _ => fun
  | [d1, d2, d3, d4, d5, d6] => { results := [.lit (.bool true)], args := [d1, d2, d3, d4, d5, d6] }
  | _ => none }
def lawS0067BPickRow : OpenClaim := { program := "ybulkajc", sum := "876d41705516216587cafaf06b9331ea80ee0f03a2e1ffe557b534d48c9f8ea4", func := "example.com/keyfence/keyfence.LawS0067BPick", spec := "lawS0067BPick", plainKeys := false, apart := false }
def LawS0067BPickSaid : Prop := lawS0067BPickRow.holds Yba.pinned (OpenSpec.ofChange lawS0067BPickSpec)

/-- ITS FALSE NEIGHBOUR: 'it returns false'. Refute it at one input. -/
def lawS0067BPickWrong : ChangeSpec := { name := "lawS0067BPick", fn := fun _ => fun
  | [d1, d2, d3, d4, d5, d6] => { results := [.lit (.bool false)], args := [d1, d2, d3, d4, d5, d6] }
  | _ => none }
def LawS0067BPickWrongFalsely : Prop := lawS0067BPickRow.holds Yba.pinned (OpenSpec.ofChange lawS0067BPickWrong)

end Rows
end Go.Proofs.Ybulkajc
