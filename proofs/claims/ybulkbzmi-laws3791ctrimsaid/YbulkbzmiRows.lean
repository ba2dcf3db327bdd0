/-
  No cell of these rows narrows 'for every input' (looked for: loops, veiled, ifaces, maps, wideKeys, modest, calm, conditions, laid).
  DERIVED. THE GIVEN ROWS OF THIS SEAT. 3 by the template 'for every input the law returns true; each argument reads behind the call as it read before'; 0 by the template 'total and deterministic' (their statements: YbulkbzmiTotals.lean).
  GIVEN WITH THE SEED: the statements are not yours to turn. If you find one false, say at which input.
  Laid BY PROGRAM, IN A SANDBOX (cutbox-rows.mjs): the forced cells as the released guide's own fill.sh prints them over the translation eb591792e702e5f9… (all of the seat's roots in one cut). By AI agents, Wed Nov 11 2026. No macro, syntax, notation, axiom, sorry.
-/
import Derived.Test.YbulkbzmiChecked
import GoSem.Claim
import GoSem.ClaimJoined
import GoSem.ClaimMapViews
import Derived.JoinedTies
import Derived.KernelRfl
namespace Go.Proofs.Ybulkbzmi
/- THE CELL 'sum', in the pinned program and in every row, IS THE sha256 OF THE DUMP (.gsa) THAT YbulkbzmiProg.lean LOADS. Nothing in Lean hashes anything: it is a label: what it is worth is what the hold of that sum in a sandbox is worth. -/
noncomputable def Yba.pinned : Pinned := { name := "ybulkbzmi", sum := "eb591792e702e5f9ae11d91a0766c8abeebf31383f525075678ee87e9ab6f4ef", checked := Yba.checked }
namespace Rows
def none {H : Type} : Left H := { results := [], args := [] }

/-- 'vote.LawS3791BExact': WHATEVER THE INPUT: true; the input reads as it did. -/
def lawS3791BExactSpec : ChangeSpec := { name := "lawS3791BExact", fn := fun _ => fun
  | [d1, d2, d3, d4] => { results := [.lit (.bool true)], args := [d1, d2, d3, d4] }
  | _ => none }
def lawS3791BExactRow : OpenClaim := { program := "ybulkbzmi", sum := "eb591792e702e5f9ae11d91a0766c8abeebf31383f525075678ee87e9ab6f4ef", func := "example.com/kithline/kithline/vote.LawS3791BExact", spec := "lawS3791BExact", apart := false }
def LawS3791BExactSaid : Prop := lawS3791BExactRow.holds Yba.pinned (OpenSpec.ofChange lawS3791BExactSpec)

/-- ITS FALSE NEIGHBOUR: 'it returns false'. Refute it at one input. -/
def lawS3791BExactWrong : ChangeSpec := { name := "lawS3791BExact", fn := fun _ => fun
  | [d1, d2, d3, d4] => { results := [.lit (.bool false)], args := [d1, d2, d3, d4] }
  | _ => none }
def LawS3791BExactWrongFalsely : Prop := lawS3791BExactRow.holds Yba.pinned (OpenSpec.ofChange lawS3791BExactWrong)

/-- 'vote.LawS3791BKept': WHATEVER THE INPUT: true; the input reads as it did. -/
def lawS3791BKeptSpec : ChangeSpec := { name := "lawS3791BKept", fn := fun _ => fun
  | [d1, d2, d3, d4, d5] => { results := [.lit (.bool true)], args := [d1, d2, d3, d4, d5] }
  | _ => none }
def lawS3791BKeptRow : OpenClaim := { program := "ybulkbzmi", sum := "eb591792e702e5f9ae11d91a0766c8abeebf31383f525075678ee87e9ab6f4ef", func := "example.com/kithline/kithline/vote.LawS3791BKept", spec := "lawS3791BKept", apart := false }
def LawS3791BKeptSaid : Prop := lawS3791BKeptRow.holds Yba.pinned (OpenSpec.ofChange lawS3791BKeptSpec)

/-- ITS FALSE NEIGHBOUR: 'it returns false'. Refute it at one input. -/
def lawS3791BKeptWrong : ChangeSpec := { name := "lawS3791BKept", fn := fun _ => fun
  | [d1, d2, d3, d4, d5] => { results := [.lit (.bool false)], args := [d1, d2, d3, d4, d5] }
  | _ => none }
def LawS3791BKeptWrongFalsely : Prop := lawS3791BKeptRow.holds Yba.pinned (OpenSpec.ofChange lawS3791BKeptWrong)

/-- 'scan.LawS3791CTrim': WHATEVER THE INPUT: true; the input reads as it did. -/
def lawS3791CTrimSpec : ChangeSpec := { name := "lawS3791CTrim", fn := fun _ => fun
  | [d1, d2, d3] => { results := [.lit (.bool true)], args := [d1, d2, d3] }
  | _ => none }
def lawS3791CTrimRow : OpenClaim := { program := "ybulkbzmi", sum := "eb591792e702e5f9ae11d91a0766c8abeebf31383f525075678ee87e9ab6f4ef", func := "example.com/kithline/kithline/scan.LawS3791CTrim", spec := "lawS3791CTrim", apart := false }
def LawS3791CTrimSaid : Prop := lawS3791CTrimRow.holds Yba.pinned (OpenSpec.ofChange lawS3791CTrimSpec)

/-- ITS FALSE NEIGHBOUR: 'it returns false'. Refute it at one input. -/
def lawS3791CTrimWrong : ChangeSpec := { name := "lawS3791CTrim", fn := fun _ => fun
  | [d1, d2, d3] => { results := [.lit (.bool false)], args := [d1, d2, d3] }
  | _ => none }
def LawS3791CTrimWrongFalsely : Prop := lawS3791CTrimRow.holds Yba.pinned (OpenSpec.ofChange lawS3791CTrimWrong)

end Rows
end Go.Proofs.Ybulkbzmi
