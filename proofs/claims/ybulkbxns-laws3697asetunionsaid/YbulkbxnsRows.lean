/-
  No cell of these rows narrows 'for every input' (looked for: loops, veiled, ifaces, maps, wideKeys, modest, calm, conditions, laid).
  DERIVED. THE GIVEN ROWS OF THIS SEAT. 4 by the template 'for every input the law returns true; each argument reads behind the call as it read before'; 0 by the template 'total and deterministic' (their statements: YbulkbxnsTotals.lean).
  GIVEN WITH THE SEED: the statements are not yours to turn. If you find one false, say at which input.
  Laid BY PROGRAM, IN A SANDBOX (cutbox-rows.mjs): the forced cells as the released guide's own fill.sh prints them over the translation 28d7eb7e8f8f4068… (all of the seat's roots in one cut). By AI agents, Wed Nov 11 2026. No macro, syntax, notation, axiom, sorry.
-/
import Derived.Test.YbulkbxnsChecked
import GoSem.Claim
import GoSem.ClaimJoined
import GoSem.ClaimMapViews
import Derived.JoinedTies
import Derived.KernelRfl
namespace Go.Proofs.Ybulkbxns
/- THE CELL 'sum', in the pinned program and in every row, IS THE sha256 OF THE DUMP (.gsa) THAT YbulkbxnsProg.lean LOADS. Nothing in Lean hashes anything: it is a label: what it is worth is what the hold of that sum in a sandbox is worth. -/
noncomputable def Yba.pinned : Pinned := { name := "ybulkbxns", sum := "28d7eb7e8f8f406818363909490c6c37fa737fb4420c9a15fee53af8d5da5bb4", checked := Yba.checked }
namespace Rows
def none {H : Type} : Left H := { results := [], args := [] }

/-- 'reconcile.LawS3697ASetUnion': WHATEVER THE INPUT: true; the input reads as it did. -/
def lawS3697ASetUnionSpec : ChangeSpec := { name := "lawS3697ASetUnion", fn := fun _ => fun
  | [d1, d2] => { results := [.lit (.bool true)], args := [d1, d2] }
  | _ => none }
def lawS3697ASetUnionRow : OpenClaim := { program := "ybulkbxns", sum := "28d7eb7e8f8f406818363909490c6c37fa737fb4420c9a15fee53af8d5da5bb4", func := "example.com/driftline/driftline/internal/reconcile.LawS3697ASetUnion", spec := "lawS3697ASetUnion", recurses := true, apart := false }
def LawS3697ASetUnionSaid : Prop := lawS3697ASetUnionRow.holds Yba.pinned (OpenSpec.ofChange lawS3697ASetUnionSpec)

/-- ITS FALSE NEIGHBOUR: 'it returns false'. Refute it at one input. -/
def lawS3697ASetUnionWrong : ChangeSpec := { name := "lawS3697ASetUnion", fn := fun _ => fun
  | [d1, d2] => { results := [.lit (.bool false)], args := [d1, d2] }
  | _ => none }
def LawS3697ASetUnionWrongFalsely : Prop := lawS3697ASetUnionRow.holds Yba.pinned (OpenSpec.ofChange lawS3697ASetUnionWrong)

/-- 'reconcile.LawS3697AMaxCount': WHATEVER THE INPUT: true; the input reads as it did. -/
def lawS3697AMaxCountSpec : ChangeSpec := { name := "lawS3697AMaxCount", fn := fun _ => fun
  | [d1, d2] => { results := [.lit (.bool true)], args := [d1, d2] }
  | _ => none }
def lawS3697AMaxCountRow : OpenClaim := { program := "ybulkbxns", sum := "28d7eb7e8f8f406818363909490c6c37fa737fb4420c9a15fee53af8d5da5bb4", func := "example.com/driftline/driftline/internal/reconcile.LawS3697AMaxCount", spec := "lawS3697AMaxCount", recurses := true, apart := false }
def LawS3697AMaxCountSaid : Prop := lawS3697AMaxCountRow.holds Yba.pinned (OpenSpec.ofChange lawS3697AMaxCountSpec)

/-- ITS FALSE NEIGHBOUR: 'it returns false'. Refute it at one input. -/
def lawS3697AMaxCountWrong : ChangeSpec := { name := "lawS3697AMaxCount", fn := fun _ => fun
  | [d1, d2] => { results := [.lit (.bool false)], args := [d1, d2] }
  | _ => none }
def LawS3697AMaxCountWrongFalsely : Prop := lawS3697AMaxCountRow.holds Yba.pinned (OpenSpec.ofChange lawS3697AMaxCountWrong)

/-- 'replica.LawS3697CBytes': WHATEVER THE INPUT: true; the input reads as it did. -/
def lawS3697CBytesSpec : ChangeSpec := { name := "lawS3697CBytes", fn := fun _ => fun
  | [d1, d2, d3] => { results := [.lit (.bool true)], args := [d1, d2, d3] }
  | _ => none }
def lawS3697CBytesRow : OpenClaim := { program := "ybulkbxns", sum := "28d7eb7e8f8f406818363909490c6c37fa737fb4420c9a15fee53af8d5da5bb4", func := "example.com/driftline/driftline/internal/replica.LawS3697CBytes", spec := "lawS3697CBytes", apart := false }
def LawS3697CBytesSaid : Prop := lawS3697CBytesRow.holds Yba.pinned (OpenSpec.ofChange lawS3697CBytesSpec)

/-- ITS FALSE NEIGHBOUR: 'it returns false'. Refute it at one input. -/
def lawS3697CBytesWrong : ChangeSpec := { name := "lawS3697CBytes", fn := fun _ => fun
  | [d1, d2, d3] => { results := [.lit (.bool false)], args := [d1, d2, d3] }
  | _ => none }
def LawS3697CBytesWrongFalsely : Prop := lawS3697CBytesRow.holds Yba.pinned (OpenSpec.ofChange lawS3697CBytesWrong)

/-- 'replica.LawS3697CAppendTo': WHATEVER THE INPUT: true; the input reads as it did. -/
def lawS3697CAppendToSpec : ChangeSpec := { name := "lawS3697CAppendTo", fn := fun _ => fun
  | [d1, d2] => { results := [.lit (.bool true)], args := [d1, d2] }
  | _ => none }
def lawS3697CAppendToRow : OpenClaim := { program := "ybulkbxns", sum := "28d7eb7e8f8f406818363909490c6c37fa737fb4420c9a15fee53af8d5da5bb4", func := "example.com/driftline/driftline/internal/replica.LawS3697CAppendTo", spec := "lawS3697CAppendTo", apart := false }
def LawS3697CAppendToSaid : Prop := lawS3697CAppendToRow.holds Yba.pinned (OpenSpec.ofChange lawS3697CAppendToSpec)

/-- ITS FALSE NEIGHBOUR: 'it returns false'. Refute it at one input. -/
def lawS3697CAppendToWrong : ChangeSpec := { name := "lawS3697CAppendTo", fn := fun _ => fun
  | [d1, d2] => { results := [.lit (.bool false)], args := [d1, d2] }
  | _ => none }
def LawS3697CAppendToWrongFalsely : Prop := lawS3697CAppendToRow.holds Yba.pinned (OpenSpec.ofChange lawS3697CAppendToWrong)

end Rows
end Go.Proofs.Ybulkbxns
