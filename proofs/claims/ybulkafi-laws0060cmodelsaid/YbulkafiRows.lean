/-
  No cell of these rows narrows 'for every input' (looked for: loops, veiled, ifaces, maps, wideKeys, modest, calm, conditions, laid).
  DERIVED. THE GIVEN ROWS OF THIS SEAT. 6 by the template 'for every input the law returns true; each argument reads behind the call as it read before'; 0 by the template 'total and deterministic' (their statements: YbulkafiTotals.lean).
  GIVEN WITH THE SEED: the statements are not yours to turn. If you find one false, say at which input.
  Laid BY PROGRAM, IN A SANDBOX (cutbox-rows.mjs): the forced cells as the released guide's own fill.sh prints them over the translation 0ad0fc41ec1f14e9… (all of the seat's roots in one cut). By AI agents, Wed Nov 11 2026. No macro, syntax, notation, axiom, sorry.
-/
import Derived.Test.YbulkafiChecked
import GoSem.Claim
import GoSem.ClaimJoined
import GoSem.ClaimMapViews
import Derived.JoinedTies
import Derived.KernelRfl
namespace Go.Proofs.Ybulkafi
/- THE CELL 'sum', in the pinned program and in every row, IS THE sha256 OF THE DUMP (.gsa) THAT YbulkafiProg.lean LOADS. Nothing in Lean hashes anything: it is a label: what it is worth is what the hold of that sum in a sandbox is worth. -/
noncomputable def Yba.pinned : Pinned := { name := "ybulkafi", sum := "0ad0fc41ec1f14e9c8ffde222c9d7fdb452b91f2dc16fea3e8e104737a1b54c6", checked := Yba.checked }
namespace Rows
def none {H : Type} : Left H := { results := [], args := [] }

/-- 'kautzmesh.LawS0060AMirror': WHATEVER THE INPUT: true; the input reads as it did. -/
def lawS0060AMirrorSpec : ChangeSpec := { name := "lawS0060AMirror", fn := fun _ => fun
  | [d] => { results := [.lit (.bool true)], args := [d] }
  | _ => none }
def lawS0060AMirrorRow : OpenClaim := { program := "ybulkafi", sum := "0ad0fc41ec1f14e9c8ffde222c9d7fdb452b91f2dc16fea3e8e104737a1b54c6", func := "example.com/kautzmesh/kautzmesh.LawS0060AMirror", spec := "lawS0060AMirror", plainKeys := false, apart := false }
def LawS0060AMirrorSaid : Prop := lawS0060AMirrorRow.holds Yba.pinned (OpenSpec.ofChange lawS0060AMirrorSpec)

/-- ITS FALSE NEIGHBOUR: 'it returns false'. Refute it at one input. -/
def lawS0060AMirrorWrong : ChangeSpec := { name := "lawS0060AMirror", fn := fun _ => fun
  | [d] => { results := [.lit (.bool false)], args := [d] }
  | _ => none }
def LawS0060AMirrorWrongFalsely : Prop := lawS0060AMirrorRow.holds Yba.pinned (OpenSpec.ofChange lawS0060AMirrorWrong)

/-- 'kautzmesh.LawS0060AInvolution': WHATEVER THE INPUT: true; the input reads as it did. -/
def lawS0060AInvolutionSpec : ChangeSpec := { name := "lawS0060AInvolution", fn := fun _ => fun
  | [d] => { results := [.lit (.bool true)], args := [d] }
  | _ => none }
def lawS0060AInvolutionRow : OpenClaim := { program := "ybulkafi", sum := "0ad0fc41ec1f14e9c8ffde222c9d7fdb452b91f2dc16fea3e8e104737a1b54c6", func := "example.com/kautzmesh/kautzmesh.LawS0060AInvolution", spec := "lawS0060AInvolution", plainKeys := false, apart := false }
def LawS0060AInvolutionSaid : Prop := lawS0060AInvolutionRow.holds Yba.pinned (OpenSpec.ofChange lawS0060AInvolutionSpec)

/-- ITS FALSE NEIGHBOUR: 'it returns false'. Refute it at one input. -/
def lawS0060AInvolutionWrong : ChangeSpec := { name := "lawS0060AInvolution", fn := fun _ => fun
  | [d] => { results := [.lit (.bool false)], args := [d] }
  | _ => none }
def LawS0060AInvolutionWrongFalsely : Prop := lawS0060AInvolutionRow.holds Yba.pinned (OpenSpec.ofChange lawS0060AInvolutionWrong)

/-- 'kautzmesh.LawS0060BFresh': WHATEVER THE INPUT: true; the input reads as it did. -/
def lawS0060BFreshSpec : ChangeSpec := { name := "lawS0060BFresh", fn := fun _ => fun
  | [d1, d2, d3] => { results := [.lit (.bool true)], args := [d1, d2, d3] }
  | _ => none }
def lawS0060BFreshRow : OpenClaim := { program := "ybulkafi", sum := "0ad0fc41ec1f14e9c8ffde222c9d7fdb452b91f2dc16fea3e8e104737a1b54c6", func := "example.com/kautzmesh/kautzmesh.LawS0060BFresh", spec := "lawS0060BFresh", plainKeys := false, apart := false }
def LawS0060BFreshSaid : Prop := lawS0060BFreshRow.holds Yba.pinned (OpenSpec.ofChange lawS0060BFreshSpec)

/-- ITS FALSE NEIGHBOUR: 'it returns false'. Refute it at one input. -/
def lawS0060BFreshWrong : ChangeSpec := { name := "lawS0060BFresh", fn := fun _ => fun
  | [d1, d2, d3] => { results := [.lit (.bool false)], args := [d1, d2, d3] }
  | _ => none }
def LawS0060BFreshWrongFalsely : Prop := lawS0060BFreshRow.holds Yba.pinned (OpenSpec.ofChange lawS0060BFreshWrong)

/-- 'kautzmesh.LawS0060BKept': WHATEVER THE INPUT: true; the input reads as it did. -/
def lawS0060BKeptSpec : ChangeSpec := { name := "lawS0060BKept", fn := fun _ => fun
  | [d1, d2] => { results := [.lit (.bool true)], args := [d1, d2] }
  | _ => none }
def lawS0060BKeptRow : OpenClaim := { program := "ybulkafi", sum := "0ad0fc41ec1f14e9c8ffde222c9d7fdb452b91f2dc16fea3e8e104737a1b54c6", func := "example.com/kautzmesh/kautzmesh.LawS0060BKept", spec := "lawS0060BKept", plainKeys := false, apart := false }
def LawS0060BKeptSaid : Prop := lawS0060BKeptRow.holds Yba.pinned (OpenSpec.ofChange lawS0060BKeptSpec)

/-- ITS FALSE NEIGHBOUR: 'it returns false'. Refute it at one input. -/
def lawS0060BKeptWrong : ChangeSpec := { name := "lawS0060BKept", fn := fun _ => fun
  | [d1, d2] => { results := [.lit (.bool false)], args := [d1, d2] }
  | _ => none }
def LawS0060BKeptWrongFalsely : Prop := lawS0060BKeptRow.holds Yba.pinned (OpenSpec.ofChange lawS0060BKeptWrong)

/-- 'kautzmesh.LawS0060CModel': WHATEVER THE INPUT: true; the input reads as it did. -/
def lawS0060CModelSpec : ChangeSpec := { name := "lawS0060CModel", fn := fun _ => fun
  | [d1, d2] => { results := [.lit (.bool true)], args := [d1, d2] }
  | _ => none }
def lawS0060CModelRow : OpenClaim := { program := "ybulkafi", sum := "0ad0fc41ec1f14e9c8ffde222c9d7fdb452b91f2dc16fea3e8e104737a1b54c6", func := "example.com/kautzmesh/kautzmesh.LawS0060CModel", spec := "lawS0060CModel", plainKeys := false, apart := false }
def LawS0060CModelSaid : Prop := lawS0060CModelRow.holds Yba.pinned (OpenSpec.ofChange lawS0060CModelSpec)

/-- ITS FALSE NEIGHBOUR: 'it returns false'. Refute it at one input. -/
def lawS0060CModelWrong : ChangeSpec := { name := "lawS0060CModel", fn := fun _ => fun
  | [d1, d2] => { results := [.lit (.bool false)], args := [d1, d2] }
  | _ => none }
def LawS0060CModelWrongFalsely : Prop := lawS0060CModelRow.holds Yba.pinned (OpenSpec.ofChange lawS0060CModelWrong)

/-- 'kautzmesh.LawS0060CBounds': WHATEVER THE INPUT: true; the input reads as it did. -/
def lawS0060CBoundsSpec : ChangeSpec := { name := "lawS0060CBounds", fn := fun _ => fun
  | [d1, d2] => { results := [.lit (.bool true)], args := [d1, d2] }
  | _ => none }
def lawS0060CBoundsRow : OpenClaim := { program := "ybulkafi", sum := "0ad0fc41ec1f14e9c8ffde222c9d7fdb452b91f2dc16fea3e8e104737a1b54c6", func := "example.com/kautzmesh/kautzmesh.LawS0060CBounds", spec := "lawS0060CBounds", plainKeys := false, apart := false }
def LawS0060CBoundsSaid : Prop := lawS0060CBoundsRow.holds Yba.pinned (OpenSpec.ofChange lawS0060CBoundsSpec)

/-- ITS FALSE NEIGHBOUR: 'it returns false'. Refute it at one input. -/
def lawS0060CBoundsWrong : ChangeSpec := { name := "lawS0060CBounds", fn := fun _ => fun
  | [d1, d2] => { results := [.lit (.bool false)], args := [d1, d2] }
  | _ => none }
def LawS0060CBoundsWrongFalsely : Prop := lawS0060CBoundsRow.holds Yba.pinned (OpenSpec.ofChange lawS0060CBoundsWrong)

end Rows
end Go.Proofs.Ybulkafi
