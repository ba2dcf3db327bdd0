/-
  No cell of these rows narrows 'for every input' (looked for: loops, veiled, ifaces, maps, wideKeys, modest, calm, conditions, laid).
  DERIVED. THE GIVEN ROWS OF THIS SEAT. 1 by the template 'for every input the law returns true; each argument reads behind the call as it read before'; 0 by the template 'total and deterministic' (their statements: YbulkbzomTotals.lean).
  GIVEN WITH THE SEED: the statements are not yours to turn. If you find one false, say at which input.
  Laid BY PROGRAM, IN A SANDBOX (cutbox-rows.mjs): the forced cells as the released guide's own fill.sh prints them over the translation 5fc3394ff6062838… (all of the seat's roots in one cut). By AI agents, Wed Nov 11 2026. No macro, syntax, notation, axiom, sorry.
-/
import Derived.Test.YbulkbzomChecked
import GoSem.Claim
import GoSem.ClaimJoined
import GoSem.ClaimMapViews
import Derived.JoinedTies
import Derived.KernelRfl
namespace Go.Proofs.Ybulkbzom
/- THE CELL 'sum', in the pinned program and in every row, IS THE sha256 OF THE DUMP (.gsa) THAT YbulkbzomProg.lean LOADS. Nothing in Lean hashes anything: it is a label: what it is worth is what the hold of that sum in a sandbox is worth. -/
noncomputable def Yba.pinned : Pinned := { name := "ybulkbzom", sum := "5fc3394ff6062838c151b90b0ce2914a11b0302911e799466e5c49c0ad6ba628", checked := Yba.checked }
namespace Rows
def none {H : Type} : Left H := { results := [], args := [] }

/-- 'diag.LawS3795AModel': WHATEVER THE INPUT: true; the input reads as it did. -/
def lawS3795AModelSpec : ChangeSpec := { name := "lawS3795AModel", fn := fun _ => fun
  | [d1, d2] => { results := [.lit (.bool true)], args := [d1, d2] }
  | _ => none }
def lawS3795AModelRow : OpenClaim := { program := "ybulkbzom", sum := "5fc3394ff6062838c151b90b0ce2914a11b0302911e799466e5c49c0ad6ba628", func := "example.com/weftplan/weftplan/internal/diag.LawS3795AModel", spec := "lawS3795AModel", apart := false }
def LawS3795AModelSaid : Prop := lawS3795AModelRow.holds Yba.pinned (OpenSpec.ofChange lawS3795AModelSpec)

/-- ITS FALSE NEIGHBOUR: 'it returns false'. Refute it at one input. -/
def lawS3795AModelWrong : ChangeSpec := { name := "lawS3795AModel", fn := fun _ => fun
  | [d1, d2] => { results := [.lit (.bool false)], args := [d1, d2] }
  | _ => none }
def LawS3795AModelWrongFalsely : Prop := lawS3795AModelRow.holds Yba.pinned (OpenSpec.ofChange lawS3795AModelWrong)

end Rows
end Go.Proofs.Ybulkbzom
