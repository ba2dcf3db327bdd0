/-
  NARROWER THAN 'FOR EVERY INPUT', by the rows' own cells (each row's printed sentence says how): LawS3792AEnd: ifaces, laid.
  DERIVED. THE GIVEN ROWS OF THIS SEAT. 1 by the template 'for every input the law returns true; each argument reads behind the call as it read before'; 0 by the template 'total and deterministic' (their statements: YbulkbzmwFmtTotals.lean).
  GIVEN WITH THE SEED: the statements are not yours to turn. If you find one false, say at which input.
  Laid BY PROGRAM, IN A SANDBOX (cutbox-rows.mjs): the forced cells as the released guide's own fill.sh prints them over the translation 255a0b7d8b221302… (all of the seat's roots in one cut). By AI agents, Wed Nov 11 2026. No macro, syntax, notation, axiom, sorry.
-/
import Derived.Test.YbulkbzmwFmtChecked
import GoSem.Claim
import GoSem.ClaimJoined
import GoSem.ClaimMapViews
import Derived.JoinedTies
import Derived.KernelRfl
namespace Go.Proofs.YbulkbzmwFmt
/- THE CELL 'sum', in the pinned program and in every row, IS THE sha256 OF THE DUMP (.gsa) THAT YbulkbzmwFmtProg.lean LOADS. Nothing in Lean hashes anything: it is a label: what it is worth is what the hold of that sum in a sandbox is worth. -/
noncomputable def Ybaf.pinned : Pinned := { name := "ybulkbzmwfmt", sum := "255a0b7d8b221302e5190fd499dbfa3b30029dbd0f05eff46d5bf7a662f53176", checked := Ybaf.checked }
namespace Rows
def none {H : Type} : Left H := { results := [], args := [] }

/- WHAT THE LISTED PACKAGE-LEVEL VARIABLES READ AS WHEN THE CALL BEGINS. Each datum BY PROGRAM (the guide's laid-datum.mjs) off the statement by which the dump's own 'gosem.cut.vars' lays the variable. In a bare row this is a premise. The card (YbulkbzmwFmtCards.lean) ties it to the program's text. -/
def laid_example_com_tidemark_tidemark_pkg_chanlog_ErrNoSession {H : Type} : DataW H := .iface "*errors.errorString" (.ptr (.agg [.lit (.string [110, 111, 32, 111, 112, 101, 110, 32, 115, 101, 115, 115, 105, 111, 110])]))

/-- 'chanlog.LawS3792AEnd': WHATEVER THE INPUT: true; the input reads as it did. -/
def lawS3792AEndSpec : ChangeSpec := { name := "lawS3792AEnd", vars := ["example.com/tidemark/tidemark/pkg/chanlog.ErrNoSession"], fn := fun _ => fun
  | [d1, d2, d3, d4, d5, d6, g1] => { results := [.lit (.bool true)], args := [d1, d2, d3, d4, d5, d6], vars := [g1] }
  | _ => none }
def lawS3792AEndRow : OpenClaim := { program := "ybulkbzmwfmt", sum := "255a0b7d8b221302e5190fd499dbfa3b30029dbd0f05eff46d5bf7a662f53176", func := "example.com/tidemark/tidemark/pkg/chanlog.LawS3792AEnd", spec := "lawS3792AEnd", stops := ["fmt.errorf"], inPlace := ["(*internal/sync.Mutex).Lock", "internal/race.Disable", "sync/atomic.CompareAndSwapInt32", "internal/race.Enable", "internal/race.Acquire", "(*internal/sync.Mutex).lockSlow", "internal/sync.runtime_canSpin", "internal/sync.runtime_doSpin", "internal/sync.throw", "internal/sync.runtime_nanotime", "internal/sync.runtime_SemacquireMutex", "sync/atomic.AddInt32", "(*internal/sync.Mutex).Unlock", "internal/race.ReleaseMerge", "(*internal/sync.Mutex).unlockSlow", "internal/sync.fatal", "internal/sync.runtime_Semrelease", "fmt.errorf", "internal/reflectlite.TypeOf"], unfollowed := true, recurses := true, named := ["example.com/tidemark/tidemark/pkg/chanlog.ErrNoSession"], ifaces := true, apart := false, laid := [("example.com/tidemark/tidemark/pkg/chanlog.ErrNoSession", laid_example_com_tidemark_tidemark_pkg_chanlog_ErrNoSession)] }
/-- NO THEOREM (fmt's text is open here; it may be false): for the released tool's asking of the row's closed facts alone. THE STATEMENT IS 'LawS3792AEndToldSaid' (YbulkbzmwFmtCards.lean). -/
def LawS3792AEndFormAsk : Prop := lawS3792AEndRow.holds Ybaf.pinned (OpenSpec.ofChange lawS3792AEndSpec)

/-- ITS FALSE NEIGHBOUR: 'it returns false'. Refute it at one input. -/
def lawS3792AEndWrong : ChangeSpec := { name := "lawS3792AEnd", vars := ["example.com/tidemark/tidemark/pkg/chanlog.ErrNoSession"], fn := fun _ => fun
  | [d1, d2, d3, d4, d5, d6, g1] => { results := [.lit (.bool false)], args := [d1, d2, d3, d4, d5, d6], vars := [g1] }
  | _ => none }
def LawS3792AEndWrongFormAsk : Prop := lawS3792AEndRow.holds Ybaf.pinned (OpenSpec.ofChange lawS3792AEndWrong)

end Rows
end Go.Proofs.YbulkbzmwFmt
