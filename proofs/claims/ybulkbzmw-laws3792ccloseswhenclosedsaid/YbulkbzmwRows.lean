/-
  No cell of these rows narrows 'for every input' (looked for: loops, veiled, ifaces, maps, wideKeys, modest, calm, conditions, laid).
  DERIVED. THE GIVEN ROWS OF THIS SEAT. 1 by the template 'for every input the law returns true; each argument reads behind the call as it read before'; 0 by the template 'total and deterministic' (their statements: YbulkbzmwTotals.lean).
  GIVEN WITH THE SEED: the statements are not yours to turn. If you find one false, say at which input.
  Laid BY PROGRAM, IN A SANDBOX (cutbox-rows.mjs): the forced cells as the released guide's own fill.sh prints them over the translation 68c537990aae6851… (all of the seat's roots in one cut). By AI agents, Wed Nov 11 2026. No macro, syntax, notation, axiom, sorry.
-/
import Derived.Test.YbulkbzmwChecked
import GoSem.Claim
import GoSem.ClaimJoined
import GoSem.ClaimMapViews
import Derived.JoinedTies
import Derived.KernelRfl
namespace Go.Proofs.Ybulkbzmw
/- THE CELL 'sum', in the pinned program and in every row, IS THE sha256 OF THE DUMP (.gsa) THAT YbulkbzmwProg.lean LOADS. Nothing in Lean hashes anything: it is a label: what it is worth is what the hold of that sum in a sandbox is worth. -/
noncomputable def Yba.pinned : Pinned := { name := "ybulkbzmw", sum := "68c537990aae68510efa7abd821368ff4adacaf86492d956a73e4b0136b54e51", checked := Yba.checked }
namespace Rows
def none {H : Type} : Left H := { results := [], args := [] }

/-- 'httpapi.LawS3792CClosesWhenClosed': WHATEVER THE INPUT: true; the input reads as it did. -/
def lawS3792CClosesWhenClosedSpec : ChangeSpec := { name := "lawS3792CClosesWhenClosed", fn := fun _ => fun
  | [d1, d2] => { results := [.lit (.bool true)], args := [d1, d2] }
  | _ => none }
def lawS3792CClosesWhenClosedRow : OpenClaim := { program := "ybulkbzmw", sum := "68c537990aae68510efa7abd821368ff4adacaf86492d956a73e4b0136b54e51", func := "example.com/tidemark/tidemark/pkg/httpapi.LawS3792CClosesWhenClosed", spec := "lawS3792CClosesWhenClosed", inPlace := ["sync/atomic.LoadUint32", "(*internal/sync.Mutex).Lock", "internal/race.Disable", "sync/atomic.CompareAndSwapInt32", "internal/race.Enable", "internal/race.Acquire", "(*internal/sync.Mutex).lockSlow", "internal/sync.runtime_canSpin", "internal/sync.runtime_doSpin", "internal/sync.throw", "internal/sync.runtime_nanotime", "internal/sync.runtime_SemacquireMutex", "sync/atomic.AddInt32", "(*internal/sync.Mutex).Unlock", "internal/race.ReleaseMerge", "(*internal/sync.Mutex).unlockSlow", "internal/sync.fatal", "internal/sync.runtime_Semrelease", "sync/atomic.StoreUint32"], unfollowed := true, recurses := true, apart := false }
def LawS3792CClosesWhenClosedSaid : Prop := lawS3792CClosesWhenClosedRow.holds Yba.pinned (OpenSpec.ofChange lawS3792CClosesWhenClosedSpec)

/-- ITS FALSE NEIGHBOUR: 'it returns false'. Refute it at one input. -/
def lawS3792CClosesWhenClosedWrong : ChangeSpec := { name := "lawS3792CClosesWhenClosed", fn := fun _ => fun
  | [d1, d2] => { results := [.lit (.bool false)], args := [d1, d2] }
  | _ => none }
def LawS3792CClosesWhenClosedWrongFalsely : Prop := lawS3792CClosesWhenClosedRow.holds Yba.pinned (OpenSpec.ofChange lawS3792CClosesWhenClosedWrong)

end Rows
end Go.Proofs.Ybulkbzmw
