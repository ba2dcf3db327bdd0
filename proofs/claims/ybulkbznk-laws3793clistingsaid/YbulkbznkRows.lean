/-
  No cell of these rows narrows 'for every input' (looked for: loops, veiled, ifaces, maps, wideKeys, modest, calm, conditions, laid).
  DERIVED. THE GIVEN ROWS OF THIS SEAT. 1 by the template 'for every input the law returns true; each argument reads behind the call as it read before'; 0 by the template 'total and deterministic' (their statements: YbulkbznkTotals.lean).
  GIVEN WITH THE SEED: the statements are not yours to turn. If you find one false, say at which input.
  Laid BY PROGRAM, IN A SANDBOX (cutbox-rows.mjs): the forced cells as the released guide's own fill.sh prints them over the translation ab9225f10d7edf54… (all of the seat's roots in one cut). By AI agents, Wed Nov 11 2026. No macro, syntax, notation, axiom, sorry.
-/
import Derived.Test.YbulkbznkChecked
import GoSem.Claim
import GoSem.ClaimJoined
import GoSem.ClaimMapViews
import Derived.JoinedTies
import Derived.KernelRfl
namespace Go.Proofs.Ybulkbznk
/- THE CELL 'sum', in the pinned program and in every row, IS THE sha256 OF THE DUMP (.gsa) THAT YbulkbznkProg.lean LOADS. Nothing in Lean hashes anything: it is a label: what it is worth is what the hold of that sum in a sandbox is worth. -/
noncomputable def Yba.pinned : Pinned := { name := "ybulkbznk", sum := "ab9225f10d7edf548153442d61bd3b88782a3a264861df4e70f695850abc77ff", checked := Yba.checked }
namespace Rows
def none {H : Type} : Left H := { results := [], args := [] }

/-- 'depositary.LawS3793CListing': WHATEVER THE INPUT: true; the input reads as it did. -/
def lawS3793CListingSpec : ChangeSpec := { name := "lawS3793CListing", fn := fun _ => fun
  | [d1, d2, d3, d4] => { results := [.lit (.bool true)], args := [d1, d2, d3, d4] }
  | _ => none }
def lawS3793CListingRow : OpenClaim := { program := "ybulkbznk", sum := "ab9225f10d7edf548153442d61bd3b88782a3a264861df4e70f695850abc77ff", func := "example.com/depositary/depositary.LawS3793CListing", spec := "lawS3793CListing", plainKeys := false, apart := false }
def LawS3793CListingSaid : Prop := lawS3793CListingRow.holds Yba.pinned (OpenSpec.ofChange lawS3793CListingSpec)

/-- ITS FALSE NEIGHBOUR: 'it returns false'. Refute it at one input. -/
def lawS3793CListingWrong : ChangeSpec := { name := "lawS3793CListing", fn := fun _ => fun
  | [d1, d2, d3, d4] => { results := [.lit (.bool false)], args := [d1, d2, d3, d4] }
  | _ => none }
def LawS3793CListingWrongFalsely : Prop := lawS3793CListingRow.holds Yba.pinned (OpenSpec.ofChange lawS3793CListingWrong)

end Rows
end Go.Proofs.Ybulkbznk
