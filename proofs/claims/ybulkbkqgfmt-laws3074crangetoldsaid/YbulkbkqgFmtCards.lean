/-
  DERIVED. GIVEN WITH THE SEED: THE CARDS: each row of YbulkbkqgFmtRows.lean that lists a variable, with what it lists TIED to the program's text (the seventh form; the later family's looks); each row that meets fmt, with fmt's text TOLD by the authors' own Lean function (tested against real Go, not proved from fmt's source: count such statements apart). THE CARD IS WHAT COUNTS. Prove the row's statement (the work); the ties are given (YbulkbkqgFmtTie.lean); close each card by the builder's one call (the guide's Derived/Test/ToyasCard.lean, 'card_holds'). Laid BY PROGRAM, IN A SANDBOX (cutbox-door.mjs). By AI agents, Wed Nov 11 2026. No macro, syntax, notation, axiom, sorry.
-/
import Derived.Test.YbulkbkqgFmtRows
import GoSem.ClaimSeven
namespace Go.Proofs.YbulkbkqgFmt
namespace Rows

/-- THE TOLD CARD OF 'chord.LawS3074CRange'. -/
def lawS3074CRangeCard : Claim7 := { stood := { row := lawS3074CRangeRow, standIns := [], harness := (true, "42809f1368cde9200001f11f0d0e126932bd046605e45258d5a9e7cf2d8ad095"), looks := false }, told := true, goes := false }
def LawS3074CRangeToldSaid : Prop := Claim7.holds Ybaf.pinned (.plain (OpenSpec.ofChange lawS3074CRangeSpec)) lawS3074CRangeCard
/-- ITS FALSE NEIGHBOUR. Refute it at one input. -/
def LawS3074CRangeToldWrongFalsely : Prop := Claim7.holds Ybaf.pinned (.plain (OpenSpec.ofChange lawS3074CRangeWrong)) lawS3074CRangeCard

/-- THE TOLD CARD OF 'chord.LawS3074CEdges'. -/
def lawS3074CEdgesCard : Claim7 := { stood := { row := lawS3074CEdgesRow, standIns := [], harness := (true, "42809f1368cde9200001f11f0d0e126932bd046605e45258d5a9e7cf2d8ad095"), looks := false }, told := true, goes := false }
def LawS3074CEdgesToldSaid : Prop := Claim7.holds Ybaf.pinned (.plain (OpenSpec.ofChange lawS3074CEdgesSpec)) lawS3074CEdgesCard
/-- ITS FALSE NEIGHBOUR. Refute it at one input. -/
def LawS3074CEdgesToldWrongFalsely : Prop := Claim7.holds Ybaf.pinned (.plain (OpenSpec.ofChange lawS3074CEdgesWrong)) lawS3074CEdgesCard
end Rows
end Go.Proofs.YbulkbkqgFmt
