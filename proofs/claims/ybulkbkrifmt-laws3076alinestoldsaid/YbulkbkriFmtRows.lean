/-
  No cell of these rows narrows 'for every input' (looked for: loops, veiled, ifaces, maps, wideKeys, modest, calm, conditions, laid).
  DERIVED. THE GIVEN ROWS OF THIS SEAT. 1 by the template 'for every input the law returns true; each argument reads behind the call as it read before'; 0 by the template 'total and deterministic' (their statements: YbulkbkriFmtTotals.lean).
  GIVEN WITH THE SEED: the statements are not yours to turn. If you find one false, say at which input.
  Laid BY PROGRAM, IN A SANDBOX (cutbox-rows.mjs): the forced cells as the released guide's own fill.sh prints them over the translation 847db6b176018c4a… (all of the seat's roots in one cut). By AI agents, Wed Nov 11 2026. No macro, syntax, notation, axiom, sorry.
-/
import Derived.Test.YbulkbkriFmtChecked
import GoSem.Claim
import GoSem.ClaimJoined
import GoSem.ClaimMapViews
import Derived.JoinedTies
import Derived.KernelRfl
namespace Go.Proofs.YbulkbkriFmt
/- THE CELL 'sum', in the pinned program and in every row, IS THE sha256 OF THE DUMP (.gsa) THAT YbulkbkriFmtProg.lean LOADS. Nothing in Lean hashes anything: it is a label: what it is worth is what the hold of that sum in a sandbox is worth. -/
noncomputable def Ybaf.pinned : Pinned := { name := "ybulkbkrifmt", sum := "847db6b176018c4a7bd03f1a269412465a4f2c8caac9df9edcf05092200adbea", checked := Ybaf.checked }
namespace Rows
def none {H : Type} : Left H := { results := [], args := [] }

/-- 'deps.LawS3076ALines': WHATEVER THE INPUT: true; the input reads as it did. -/
def lawS3076ALinesSpec : ChangeSpec := { name := "lawS3076ALines", fn := fun _ => fun
  | [d1, d2, d3] => { results := [.lit (.bool true)], args := [d1, d2, d3] }
  | _ => none }
def lawS3076ALinesRow : OpenClaim := { program := "ybulkbkrifmt", sum := "847db6b176018c4a7bd03f1a269412465a4f2c8caac9df9edcf05092200adbea", func := "example.com/lanewise/lanewise/internal/deps.LawS3076ALines", spec := "lawS3076ALines", stops := ["fmt.errorf", "fmt.Sprintf"], inPlace := ["fmt.Sprintf", "fmt.errorf"], unfollowed := true, recurses := true, apart := false }
/-- NO THEOREM (fmt's text is open here; it may be false): for the released tool's asking of the row's closed facts alone. THE STATEMENT IS 'LawS3076ALinesToldSaid' (YbulkbkriFmtCards.lean). -/
def LawS3076ALinesFormAsk : Prop := lawS3076ALinesRow.holds Ybaf.pinned (OpenSpec.ofChange lawS3076ALinesSpec)

/-- ITS FALSE NEIGHBOUR: 'it returns false'. Refute it at one input. -/
def lawS3076ALinesWrong : ChangeSpec := { name := "lawS3076ALines", fn := fun _ => fun
  | [d1, d2, d3] => { results := [.lit (.bool false)], args := [d1, d2, d3] }
  | _ => none }
def LawS3076ALinesWrongFormAsk : Prop := lawS3076ALinesRow.holds Ybaf.pinned (OpenSpec.ofChange lawS3076ALinesWrong)

end Rows
end Go.Proofs.YbulkbkriFmt
