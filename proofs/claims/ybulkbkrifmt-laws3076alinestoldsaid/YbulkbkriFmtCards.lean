/-
  DERIVED. GIVEN WITH THE SEED: THE CARDS: each row of YbulkbkriFmtRows.lean that lists a variable, with what it lists TIED to the program's text (the seventh form; the later family's looks); each row that meets fmt, with fmt's text TOLD by the authors' own Lean function (tested against real Go, not proved from fmt's source: count such statements apart). THE CARD IS WHAT COUNTS. Prove the row's statement (the work); the ties are given (YbulkbkriFmtTie.lean); close each card by the builder's one call (the guide's Derived/Test/ToyasCard.lean, 'card_holds'). Laid BY PROGRAM, IN A SANDBOX (cutbox-door.mjs). By AI agents, Wed Nov 11 2026. No macro, syntax, notation, axiom, sorry.
-/
import Derived.Test.YbulkbkriFmtRows
import GoSem.ClaimSeven
namespace Go.Proofs.YbulkbkriFmt
namespace Rows

/-- THE TOLD CARD OF 'deps.LawS3076ALines'. -/
def lawS3076ALinesCard : Claim7 := { stood := { row := lawS3076ALinesRow, standIns := [], harness := (true, "e09d990892e8795f2345e57d56a4b80621a4ed9529b5f0cf5c08c70c64df7956"), looks := false }, told := true, goes := false }
def LawS3076ALinesToldSaid : Prop := Claim7.holds Ybaf.pinned (.plain (OpenSpec.ofChange lawS3076ALinesSpec)) lawS3076ALinesCard
/-- ITS FALSE NEIGHBOUR. Refute it at one input. -/
def LawS3076ALinesToldWrongFalsely : Prop := Claim7.holds Ybaf.pinned (.plain (OpenSpec.ofChange lawS3076ALinesWrong)) lawS3076ALinesCard
end Rows
end Go.Proofs.YbulkbkriFmt
