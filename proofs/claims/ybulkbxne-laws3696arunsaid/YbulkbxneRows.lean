/-
  No cell of these rows narrows 'for every input' (looked for: loops, veiled, ifaces, maps, wideKeys, modest, calm, conditions, laid).
  DERIVED. THE GIVEN ROWS OF THIS SEAT. 2 by the template 'for every input the law returns true; each argument reads behind the call as it read before'; 0 by the template 'total and deterministic' (their statements: YbulkbxneTotals.lean).
  GIVEN WITH THE SEED: the statements are not yours to turn. If you find one false, say at which input.
  Laid BY PROGRAM, IN A SANDBOX (cutbox-rows.mjs): the forced cells as the released guide's own fill.sh prints them over the translation 551feb1897233770… (all of the seat's roots in one cut). By AI agents, Wed Nov 11 2026. No macro, syntax, notation, axiom, sorry.
-/
import Derived.Test.YbulkbxneChecked
import GoSem.Claim
import GoSem.ClaimJoined
import GoSem.ClaimMapViews
import Derived.JoinedTies
import Derived.KernelRfl
namespace Go.Proofs.Ybulkbxne
/- THE CELL 'sum', in the pinned program and in every row, IS THE sha256 OF THE DUMP (.gsa) THAT YbulkbxneProg.lean LOADS. Nothing in Lean hashes anything: it is a label: what it is worth is what the hold of that sum in a sandbox is worth. -/
noncomputable def Yba.pinned : Pinned := { name := "ybulkbxne", sum := "551feb1897233770d08d8b625b5b632602ac6b3c094425b21922482261c7800b", checked := Yba.checked }
namespace Rows
def none {H : Type} : Left H := { results := [], args := [] }

/-- 'gradloom.LawS3696ARun': WHATEVER THE INPUT: true; the input reads as it did. -/
def lawS3696ARunSpec : ChangeSpec := { name := "lawS3696ARun", fn := fun _ => fun
  | [d1, d2, d3, d4, d5, d6] => { results := [.lit (.bool true)], args := [d1, d2, d3, d4, d5, d6] }
  | _ => none }
def lawS3696ARunRow : OpenClaim := { program := "ybulkbxne", sum := "551feb1897233770d08d8b625b5b632602ac6b3c094425b21922482261c7800b", func := "example.com/gradloom/gradloom.LawS3696ARun", spec := "lawS3696ARun", unfollowed := true, recurses := true, apart := false }
def LawS3696ARunSaid : Prop := lawS3696ARunRow.holds Yba.pinned (OpenSpec.ofChange lawS3696ARunSpec)

/-- ITS FALSE NEIGHBOUR: 'it returns false'. Refute it at one input. -/
def lawS3696ARunWrong : ChangeSpec := { name := "lawS3696ARun", fn := fun _ => fun
  | [d1, d2, d3, d4, d5, d6] => { results := [.lit (.bool false)], args := [d1, d2, d3, d4, d5, d6] }
  | _ => none }
def LawS3696ARunWrongFalsely : Prop := lawS3696ARunRow.holds Yba.pinned (OpenSpec.ofChange lawS3696ARunWrong)

/-- 'gradloom.LawS3696CSet': WHATEVER THE INPUT: true; the input reads as it did. -/
def lawS3696CSetSpec : ChangeSpec := { name := "lawS3696CSet", fn := fun _ => fun
  | [d1, d2, d3, d4, d5, d6] => { results := [.lit (.bool true)], args := [d1, d2, d3, d4, d5, d6] }
  | _ => none }
def lawS3696CSetRow : OpenClaim := { program := "ybulkbxne", sum := "551feb1897233770d08d8b625b5b632602ac6b3c094425b21922482261c7800b", func := "example.com/gradloom/gradloom.LawS3696CSet", spec := "lawS3696CSet", inPlace := ["sync/atomic.StorePointer", "(*internal/sync.Mutex).Lock", "internal/race.Disable", "sync/atomic.CompareAndSwapInt32", "internal/race.Enable", "internal/race.Acquire", "(*internal/sync.Mutex).lockSlow", "internal/sync.runtime_canSpin", "internal/sync.runtime_doSpin", "internal/sync.throw", "internal/sync.runtime_nanotime", "internal/sync.runtime_SemacquireMutex", "sync/atomic.AddInt32", "(*internal/sync.Mutex).Unlock", "internal/race.ReleaseMerge", "(*internal/sync.Mutex).unlockSlow", "internal/sync.fatal", "internal/sync.runtime_Semrelease", "sync/atomic.LoadPointer", "(*internal/sync.Mutex).TryLock", "math.Float64bits"], apart := false }
def LawS3696CSetSaid : Prop := lawS3696CSetRow.holds Yba.pinned (OpenSpec.ofChange lawS3696CSetSpec)

/-- ITS FALSE NEIGHBOUR: 'it returns false'. Refute it at one input. -/
def lawS3696CSetWrong : ChangeSpec := { name := "lawS3696CSet", fn := fun _ => fun
  | [d1, d2, d3, d4, d5, d6] => { results := [.lit (.bool false)], args := [d1, d2, d3, d4, d5, d6] }
  | _ => none }
def LawS3696CSetWrongFalsely : Prop := lawS3696CSetRow.holds Yba.pinned (OpenSpec.ofChange lawS3696CSetWrong)

end Rows
end Go.Proofs.Ybulkbxne
