/-
  No cell of these rows narrows 'for every input' (looked for: loops, veiled, ifaces, maps, wideKeys, modest, calm, conditions, laid).
  DERIVED. THE GIVEN ROWS OF THIS SEAT. 1 by the template 'for every input the law returns true; each argument reads behind the call as it read before'; 0 by the template 'total and deterministic' (their statements: YbulkbkriTotals.lean).
  GIVEN WITH THE SEED: the statements are not yours to turn. If you find one false, say at which input.
  Laid BY PROGRAM, IN A SANDBOX (cutbox-rows.mjs): the forced cells as the released guide's own fill.sh prints them over the translation 31c7ef2adc8edd75… (all of the seat's roots in one cut). By AI agents, Wed Nov 11 2026. No macro, syntax, notation, axiom, sorry.
-/
import Derived.Test.YbulkbkriChecked
import GoSem.Claim
import GoSem.ClaimJoined
import GoSem.ClaimMapViews
import Derived.JoinedTies
import Derived.KernelRfl
namespace Go.Proofs.Ybulkbkri
/- THE CELL 'sum', in the pinned program and in every row, IS THE sha256 OF THE DUMP (.gsa) THAT YbulkbkriProg.lean LOADS. Nothing in Lean hashes anything: it is a label: what it is worth is what the hold of that sum in a sandbox is worth. -/
noncomputable def Yba.pinned : Pinned := { name := "ybulkbkri", sum := "31c7ef2adc8edd7504d00eebdbcad91783ff1742848c67bb2d3c96e609cbab23", checked := Yba.checked }
namespace Rows
def none {H : Type} : Left H := { results := [], args := [] }

/-- 'deps.LawS3076AClose': WHATEVER THE INPUT: true; the input reads as it did. -/
def lawS3076ACloseSpec : ChangeSpec := { name := "lawS3076AClose", fn := fun _ => fun
  | [d1, d2, d3, d4, d5, d6] => { results := [.lit (.bool true)], args := [d1, d2, d3, d4, d5, d6] }
  | _ => none }
def lawS3076ACloseRow : OpenClaim := { program := "ybulkbkri", sum := "31c7ef2adc8edd7504d00eebdbcad91783ff1742848c67bb2d3c96e609cbab23", func := "example.com/lanewise/lanewise/internal/deps.LawS3076AClose", spec := "lawS3076AClose", unfollowed := true, recurses := true, apart := false }
def LawS3076ACloseSaid : Prop := lawS3076ACloseRow.holds Yba.pinned (OpenSpec.ofChange lawS3076ACloseSpec)

/-- ITS FALSE NEIGHBOUR: 'it returns false'. Refute it at one input. -/
def lawS3076ACloseWrong : ChangeSpec := { name := "lawS3076AClose", fn := fun _ => fun
  | [d1, d2, d3, d4, d5, d6] => { results := [.lit (.bool false)], args := [d1, d2, d3, d4, d5, d6] }
  | _ => none }
def LawS3076ACloseWrongFalsely : Prop := lawS3076ACloseRow.holds Yba.pinned (OpenSpec.ofChange lawS3076ACloseWrong)

end Rows
end Go.Proofs.Ybulkbkri
