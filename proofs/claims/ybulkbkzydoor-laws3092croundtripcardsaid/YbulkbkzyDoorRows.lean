/-
  NARROWER THAN 'FOR EVERY INPUT', by the rows' own cells (each row's printed sentence says how): LawS3092CRoundTrip: ifaces, laid.
  DERIVED. THE GIVEN ROWS OF THIS SEAT. 1 by the template 'for every input the law returns true; each argument reads behind the call as it read before'; 0 by the template 'total and deterministic' (their statements: YbulkbkzyDoorTotals.lean).
  GIVEN WITH THE SEED: the statements are not yours to turn. If you find one false, say at which input.
  Laid BY PROGRAM, IN A SANDBOX (cutbox-rows.mjs): the forced cells as the released guide's own fill.sh prints them over the translation fb231e692ac2345d… (all of the seat's roots in one cut). By AI agents, Wed Nov 11 2026. No macro, syntax, notation, axiom, sorry.
-/
import Derived.Test.YbulkbkzyDoorChecked
import GoSem.Claim
import GoSem.ClaimJoined
import GoSem.ClaimMapViews
import Derived.JoinedTies
import Derived.KernelRfl
namespace Go.Proofs.YbulkbkzyDoor
/- THE CELL 'sum', in the pinned program and in every row, IS THE sha256 OF THE DUMP (.gsa) THAT YbulkbkzyDoorProg.lean LOADS. Nothing in Lean hashes anything: it is a label: what it is worth is what the hold of that sum in a sandbox is worth. -/
noncomputable def Ybad.pinned : Pinned := { name := "ybulkbkzydoor", sum := "fb231e692ac2345d35f95b31658f72699fac6bf6b9d925f5202e8c3cf83a01e5", checked := Ybad.checked }
namespace Rows
def none {H : Type} : Left H := { results := [], args := [] }

/- WHAT THE LISTED PACKAGE-LEVEL VARIABLES READ AS WHEN THE CALL BEGINS. Each datum BY PROGRAM (the guide's laid-datum.mjs) off the statement by which the dump's own 'gosem.cut.vars' lays the variable. In a bare row this is a premise. The card (YbulkbkzyDoorCards.lean) ties it to the program's text. -/
def laid_example_com_windrose_windrose_internal_wire_ErrMalformed {H : Type} : DataW H := .iface "*errors.errorString" (.ptr (.agg [.lit (.string [109, 97, 108, 102, 111, 114, 109, 101, 100, 32, 112, 97, 121, 108, 111, 97, 100])]))

/-- 'wire.LawS3092CRoundTrip': WHATEVER THE INPUT: true; the input reads as it did. -/
def lawS3092CRoundTripSpec : ChangeSpec := { name := "lawS3092CRoundTrip", vars := ["example.com/windrose/windrose/internal/wire.ErrMalformed"], fn := fun _ => fun
  | [d1, d2, d3, g1] => { results := [.lit (.bool true)], args := [d1, d2, d3], vars := [g1] }
  | _ => none }
def lawS3092CRoundTripRow : OpenClaim := { program := "ybulkbkzydoor", sum := "fb231e692ac2345d35f95b31658f72699fac6bf6b9d925f5202e8c3cf83a01e5", func := "example.com/windrose/windrose/internal/wire.LawS3092CRoundTrip", spec := "lawS3092CRoundTrip", named := ["encoding/binary.LittleEndian", "example.com/windrose/windrose/internal/wire.ErrMalformed"], ifaces := true, apart := false, laid := [("example.com/windrose/windrose/internal/wire.ErrMalformed", laid_example_com_windrose_windrose_internal_wire_ErrMalformed)] }
def LawS3092CRoundTripSaid : Prop := lawS3092CRoundTripRow.holds Ybad.pinned (OpenSpec.ofChange lawS3092CRoundTripSpec)

/-- ITS FALSE NEIGHBOUR: 'it returns false'. Refute it at one input. -/
def lawS3092CRoundTripWrong : ChangeSpec := { name := "lawS3092CRoundTrip", vars := ["example.com/windrose/windrose/internal/wire.ErrMalformed"], fn := fun _ => fun
  | [d1, d2, d3, g1] => { results := [.lit (.bool false)], args := [d1, d2, d3], vars := [g1] }
  | _ => none }
def LawS3092CRoundTripWrongFalsely : Prop := lawS3092CRoundTripRow.holds Ybad.pinned (OpenSpec.ofChange lawS3092CRoundTripWrong)

end Rows
end Go.Proofs.YbulkbkzyDoor
