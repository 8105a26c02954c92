/-
  No cell of these rows narrows 'for every input' (looked for: loops, veiled, ifaces, maps, wideKeys, modest, calm, conditions, laid).
  DERIVED. THE GIVEN ROWS OF THIS SEAT. 2 by the template 'for every input the law returns true; each argument reads behind the call as it read before'; 0 by the template 'total and deterministic' (their statements: YbulkbkqgFmtTotals.lean).
  GIVEN WITH THE SEED: the statements are not yours to turn. If you find one false, say at which input.
  Laid BY PROGRAM, IN A SANDBOX (cutbox-rows.mjs): the forced cells as the released guide's own fill.sh prints them over the translation ac3c730ec22eea02… (all of the seat's roots in one cut). By AI agents, Wed Nov 11 2026. No macro, syntax, notation, axiom, sorry.
-/
import Derived.Test.YbulkbkqgFmtChecked
import GoSem.Claim
import GoSem.ClaimJoined
import GoSem.ClaimMapViews
import Derived.JoinedTies
import Derived.KernelRfl
namespace Go.Proofs.YbulkbkqgFmt
/- THE CELL 'sum', in the pinned program and in every row, IS THE sha256 OF THE DUMP (.gsa) THAT YbulkbkqgFmtProg.lean LOADS. Nothing in Lean hashes anything: it is a label: what it is worth is what the hold of that sum in a sandbox is worth. -/
noncomputable def Ybaf.pinned : Pinned := { name := "ybulkbkqgfmt", sum := "ac3c730ec22eea029413ff3258fa7bfdbca10bf9488f99bc6de77e45228a4b8e", checked := Ybaf.checked }
namespace Rows
def none {H : Type} : Left H := { results := [], args := [] }

/-- 'chord.LawS3074CRange': WHATEVER THE INPUT: true; the input reads as it did. -/
def lawS3074CRangeSpec : ChangeSpec := { name := "lawS3074CRange", fn := fun _ => fun
  | [d] => { results := [.lit (.bool true)], args := [d] }
  | _ => none }
def lawS3074CRangeRow : OpenClaim := { program := "ybulkbkqgfmt", sum := "ac3c730ec22eea029413ff3258fa7bfdbca10bf9488f99bc6de77e45228a4b8e", func := "example.com/ringstead/ringstead/internal/chord.LawS3074CRange", spec := "lawS3074CRange", stops := ["fmt.errorf"], inPlace := ["fmt.errorf"], apart := false }
/-- NO THEOREM (fmt's text is open here; it may be false): for the released tool's asking of the row's closed facts alone. THE STATEMENT IS 'LawS3074CRangeToldSaid' (YbulkbkqgFmtCards.lean). -/
def LawS3074CRangeFormAsk : Prop := lawS3074CRangeRow.holds Ybaf.pinned (OpenSpec.ofChange lawS3074CRangeSpec)

/-- ITS FALSE NEIGHBOUR: 'it returns false'. Refute it at one input. -/
def lawS3074CRangeWrong : ChangeSpec := { name := "lawS3074CRange", fn := fun _ => fun
  | [d] => { results := [.lit (.bool false)], args := [d] }
  | _ => none }
def LawS3074CRangeWrongFormAsk : Prop := lawS3074CRangeRow.holds Ybaf.pinned (OpenSpec.ofChange lawS3074CRangeWrong)

/-- 'chord.LawS3074CEdges': WHATEVER THE INPUT: true; the input reads as it did. -/
def lawS3074CEdgesSpec : ChangeSpec := { name := "lawS3074CEdges", fn := fun _ => fun
  | [d1, d2] => { results := [.lit (.bool true)], args := [d1, d2] }
  | _ => none }
def lawS3074CEdgesRow : OpenClaim := { program := "ybulkbkqgfmt", sum := "ac3c730ec22eea029413ff3258fa7bfdbca10bf9488f99bc6de77e45228a4b8e", func := "example.com/ringstead/ringstead/internal/chord.LawS3074CEdges", spec := "lawS3074CEdges", stops := ["fmt.errorf"], inPlace := ["fmt.errorf"], apart := false }
/-- NO THEOREM (fmt's text is open here; it may be false): for the released tool's asking of the row's closed facts alone. THE STATEMENT IS 'LawS3074CEdgesToldSaid' (YbulkbkqgFmtCards.lean). -/
def LawS3074CEdgesFormAsk : Prop := lawS3074CEdgesRow.holds Ybaf.pinned (OpenSpec.ofChange lawS3074CEdgesSpec)

/-- ITS FALSE NEIGHBOUR: 'it returns false'. Refute it at one input. -/
def lawS3074CEdgesWrong : ChangeSpec := { name := "lawS3074CEdges", fn := fun _ => fun
  | [d1, d2] => { results := [.lit (.bool false)], args := [d1, d2] }
  | _ => none }
def LawS3074CEdgesWrongFormAsk : Prop := lawS3074CEdgesRow.holds Ybaf.pinned (OpenSpec.ofChange lawS3074CEdgesWrong)

end Rows
end Go.Proofs.YbulkbkqgFmt
