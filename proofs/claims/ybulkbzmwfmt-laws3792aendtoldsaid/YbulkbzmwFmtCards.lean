/-
  DERIVED. GIVEN WITH THE SEED: THE CARDS: each row of YbulkbzmwFmtRows.lean that lists a variable, with what it lists TIED to the program's text (the seventh form; the later family's looks); each row that meets fmt, with fmt's text TOLD by the authors' own Lean function (tested against real Go, not proved from fmt's source: count such statements apart). THE CARD IS WHAT COUNTS. Prove the row's statement (the work); the ties are given (YbulkbzmwFmtTie.lean); close each card by the builder's one call (the guide's Derived/Test/ToyasCard.lean, 'card_holds'). Laid BY PROGRAM, IN A SANDBOX (cutbox-door.mjs). By AI agents, Wed Nov 11 2026. No macro, syntax, notation, axiom, sorry.
-/
import Derived.Test.YbulkbzmwFmtRows
import GoSem.ClaimSeven
namespace Go.Proofs.YbulkbzmwFmt
namespace Rows

/-- THE TOLD AND TIED CARD OF 'chanlog.LawS3792AEnd'. -/
def lawS3792AEndCard : Claim7 := { stood := { row := lawS3792AEndRow, standIns := [], harness := (true, "6b6fd54357a93c7925f214220e131b9fa682dfca2866c23e4566e1a2f6e7eac1"), looks := true }, told := true, laidByText := true, laidKinds := [.sentinel], laidTests := true, laidLooks := .later, goes := false }
def LawS3792AEndToldSaid : Prop := Claim7.holds Ybaf.pinned (.plain (OpenSpec.ofChange lawS3792AEndSpec)) lawS3792AEndCard
/-- ITS FALSE NEIGHBOUR. Refute it at one input. -/
def LawS3792AEndToldWrongFalsely : Prop := Claim7.holds Ybaf.pinned (.plain (OpenSpec.ofChange lawS3792AEndWrong)) lawS3792AEndCard
end Rows
end Go.Proofs.YbulkbzmwFmt
