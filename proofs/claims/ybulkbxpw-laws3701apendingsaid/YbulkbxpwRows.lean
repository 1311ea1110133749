/-
  No cell of these rows narrows 'for every input' (looked for: loops, veiled, ifaces, maps, wideKeys, modest, calm, conditions, laid).
  DERIVED. THE GIVEN ROWS OF THIS SEAT. 2 by the template 'for every input the law returns true; each argument reads behind the call as it read before'; 0 by the template 'total and deterministic' (their statements: YbulkbxpwTotals.lean).
  GIVEN WITH THE SEED: the statements are not yours to turn. If you find one false, say at which input.
  Laid BY PROGRAM, IN A SANDBOX (cutbox-rows.mjs): the forced cells as the released guide's own fill.sh prints them over the translation 00e41cdb99288cb4… (all of the seat's roots in one cut). By AI agents, Wed Nov 11 2026. No macro, syntax, notation, axiom, sorry.
-/
import Derived.Test.YbulkbxpwChecked
import GoSem.Claim
import GoSem.ClaimJoined
import GoSem.ClaimMapViews
import Derived.JoinedTies
import Derived.KernelRfl
namespace Go.Proofs.Ybulkbxpw
/- THE CELL 'sum', in the pinned program and in every row, IS THE sha256 OF THE DUMP (.gsa) THAT YbulkbxpwProg.lean LOADS. Nothing in Lean hashes anything: it is a label: what it is worth is what the hold of that sum in a sandbox is worth. -/
noncomputable def Yba.pinned : Pinned := { name := "ybulkbxpw", sum := "00e41cdb99288cb4fa413c5ce1f6acad4cbc14d39cbf4d68a7fecac4355d619e", checked := Yba.checked }
namespace Rows
def none {H : Type} : Left H := { results := [], args := [] }

/-- 'node.LawS3701APending': WHATEVER THE INPUT: true; the input reads as it did. -/
def lawS3701APendingSpec : ChangeSpec := { name := "lawS3701APending", fn := fun _ => fun
  | [d1, d2, d3] => { results := [.lit (.bool true)], args := [d1, d2, d3] }
  | _ => none }
def lawS3701APendingRow : OpenClaim := { program := "ybulkbxpw", sum := "00e41cdb99288cb4fa413c5ce1f6acad4cbc14d39cbf4d68a7fecac4355d619e", func := "example.com/ringproof/ringproof/internal/node.LawS3701APending", spec := "lawS3701APending", apart := false }
def LawS3701APendingSaid : Prop := lawS3701APendingRow.holds Yba.pinned (OpenSpec.ofChange lawS3701APendingSpec)

/-- ITS FALSE NEIGHBOUR: 'it returns false'. Refute it at one input. -/
def lawS3701APendingWrong : ChangeSpec := { name := "lawS3701APending", fn := fun _ => fun
  | [d1, d2, d3] => { results := [.lit (.bool false)], args := [d1, d2, d3] }
  | _ => none }
def LawS3701APendingWrongFalsely : Prop := lawS3701APendingRow.holds Yba.pinned (OpenSpec.ofChange lawS3701APendingWrong)

/-- 'node.LawS3701AOneSide': WHATEVER THE INPUT: true; the input reads as it did. -/
def lawS3701AOneSideSpec : ChangeSpec := { name := "lawS3701AOneSide", fn := fun _ => fun
  | [d1, d2, d3] => { results := [.lit (.bool true)], args := [d1, d2, d3] }
  | _ => none }
def lawS3701AOneSideRow : OpenClaim := { program := "ybulkbxpw", sum := "00e41cdb99288cb4fa413c5ce1f6acad4cbc14d39cbf4d68a7fecac4355d619e", func := "example.com/ringproof/ringproof/internal/node.LawS3701AOneSide", spec := "lawS3701AOneSide", apart := false }
def LawS3701AOneSideSaid : Prop := lawS3701AOneSideRow.holds Yba.pinned (OpenSpec.ofChange lawS3701AOneSideSpec)

/-- ITS FALSE NEIGHBOUR: 'it returns false'. Refute it at one input. -/
def lawS3701AOneSideWrong : ChangeSpec := { name := "lawS3701AOneSide", fn := fun _ => fun
  | [d1, d2, d3] => { results := [.lit (.bool false)], args := [d1, d2, d3] }
  | _ => none }
def LawS3701AOneSideWrongFalsely : Prop := lawS3701AOneSideRow.holds Yba.pinned (OpenSpec.ofChange lawS3701AOneSideWrong)

end Rows
end Go.Proofs.Ybulkbxpw
