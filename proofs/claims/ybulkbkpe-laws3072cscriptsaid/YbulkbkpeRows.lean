/-
  No cell of these rows narrows 'for every input' (looked for: loops, veiled, ifaces, maps, wideKeys, modest, calm, conditions, laid).
  DERIVED. THE GIVEN ROWS OF THIS SEAT. 3 by the template 'for every input the law returns true; each argument reads behind the call as it read before'; 0 by the template 'total and deterministic' (their statements: YbulkbkpeTotals.lean).
  GIVEN WITH THE SEED: the statements are not yours to turn. If you find one false, say at which input.
  Laid BY PROGRAM, IN A SANDBOX (cutbox-rows.mjs): the forced cells as the released guide's own fill.sh prints them over the translation 0a8339253e70e601… (all of the seat's roots in one cut). By AI agents, Wed Nov 11 2026. No macro, syntax, notation, axiom, sorry.
-/
import Derived.Test.YbulkbkpeChecked
import GoSem.Claim
import GoSem.ClaimJoined
import GoSem.ClaimMapViews
import Derived.JoinedTies
import Derived.KernelRfl
namespace Go.Proofs.Ybulkbkpe
/- THE CELL 'sum', in the pinned program and in every row, IS THE sha256 OF THE DUMP (.gsa) THAT YbulkbkpeProg.lean LOADS. Nothing in Lean hashes anything: it is a label: what it is worth is what the hold of that sum in a sandbox is worth. -/
noncomputable def Yba.pinned : Pinned := { name := "ybulkbkpe", sum := "0a8339253e70e6016a0ad5cbab3d81aa5243f6a6479498f6f111c27a3c527c33", checked := Yba.checked }
namespace Rows
def none {H : Type} : Left H := { results := [], args := [] }

/-- 'sluicebox.LawS3072BFields': WHATEVER THE INPUT: true; the input reads as it did. -/
def lawS3072BFieldsSpec : ChangeSpec := { name := "lawS3072BFields", fn := fun _ => fun
  | [d1, d2, d3, d4, d5] => { results := [.lit (.bool true)], args := [d1, d2, d3, d4, d5] }
  | _ => none }
def lawS3072BFieldsRow : OpenClaim := { program := "ybulkbkpe", sum := "0a8339253e70e6016a0ad5cbab3d81aa5243f6a6479498f6f111c27a3c527c33", func := "example.com/sluicebox/sluicebox.LawS3072BFields", spec := "lawS3072BFields", unfollowed := true, recurses := true, apart := false }
def LawS3072BFieldsSaid : Prop := lawS3072BFieldsRow.holds Yba.pinned (OpenSpec.ofChange lawS3072BFieldsSpec)

/-- ITS FALSE NEIGHBOUR: 'it returns false'. Refute it at one input. -/
def lawS3072BFieldsWrong : ChangeSpec := { name := "lawS3072BFields", fn := fun _ => fun
  | [d1, d2, d3, d4, d5] => { results := [.lit (.bool false)], args := [d1, d2, d3, d4, d5] }
  | _ => none }
def LawS3072BFieldsWrongFalsely : Prop := lawS3072BFieldsRow.holds Yba.pinned (OpenSpec.ofChange lawS3072BFieldsWrong)

/-- 'sluicebox.LawS3072CPuts': WHATEVER THE INPUT: true; the input reads as it did. -/
def lawS3072CPutsSpec : ChangeSpec := { name := "lawS3072CPuts", fn := fun _ => fun
  | [d] => { results := [.lit (.bool true)], args := [d] }
  | _ => none }
def lawS3072CPutsRow : OpenClaim := { program := "ybulkbkpe", sum := "0a8339253e70e6016a0ad5cbab3d81aa5243f6a6479498f6f111c27a3c527c33", func := "example.com/sluicebox/sluicebox.LawS3072CPuts", spec := "lawS3072CPuts", inPlace := ["(*internal/sync.Mutex).Lock", "internal/race.Disable", "sync/atomic.CompareAndSwapInt32", "internal/race.Enable", "internal/race.Acquire", "(*internal/sync.Mutex).lockSlow", "internal/sync.runtime_canSpin", "internal/sync.runtime_doSpin", "internal/sync.throw", "internal/sync.runtime_nanotime", "internal/sync.runtime_SemacquireMutex", "sync/atomic.AddInt32", "(*internal/sync.Mutex).Unlock", "internal/race.ReleaseMerge", "(*internal/sync.Mutex).unlockSlow", "internal/sync.fatal", "internal/sync.runtime_Semrelease"], apart := false }
def LawS3072CPutsSaid : Prop := lawS3072CPutsRow.holds Yba.pinned (OpenSpec.ofChange lawS3072CPutsSpec)

/-- ITS FALSE NEIGHBOUR: 'it returns false'. Refute it at one input. -/
def lawS3072CPutsWrong : ChangeSpec := { name := "lawS3072CPuts", fn := fun _ => fun
  | [d] => { results := [.lit (.bool false)], args := [d] }
  | _ => none }
def LawS3072CPutsWrongFalsely : Prop := lawS3072CPutsRow.holds Yba.pinned (OpenSpec.ofChange lawS3072CPutsWrong)

/-- 'sluicebox.LawS3072CScript': WHATEVER THE INPUT: true; the input reads as it did. -/
def lawS3072CScriptSpec : ChangeSpec := { name := "lawS3072CScript", fn := fun _ => fun
  | [d1, d2, d3] => { results := [.lit (.bool true)], args := [d1, d2, d3] }
  | _ => none }
def lawS3072CScriptRow : OpenClaim := { program := "ybulkbkpe", sum := "0a8339253e70e6016a0ad5cbab3d81aa5243f6a6479498f6f111c27a3c527c33", func := "example.com/sluicebox/sluicebox.LawS3072CScript", spec := "lawS3072CScript", inPlace := ["(*internal/sync.Mutex).Lock", "internal/race.Disable", "sync/atomic.CompareAndSwapInt32", "internal/race.Enable", "internal/race.Acquire", "(*internal/sync.Mutex).lockSlow", "internal/sync.runtime_canSpin", "internal/sync.runtime_doSpin", "internal/sync.throw", "internal/sync.runtime_nanotime", "internal/sync.runtime_SemacquireMutex", "sync/atomic.AddInt32", "(*internal/sync.Mutex).Unlock", "internal/race.ReleaseMerge", "(*internal/sync.Mutex).unlockSlow", "internal/sync.fatal", "internal/sync.runtime_Semrelease"], unfollowed := true, recurses := true, apart := false }
def LawS3072CScriptSaid : Prop := lawS3072CScriptRow.holds Yba.pinned (OpenSpec.ofChange lawS3072CScriptSpec)

/-- ITS FALSE NEIGHBOUR: 'it returns false'. Refute it at one input. -/
def lawS3072CScriptWrong : ChangeSpec := { name := "lawS3072CScript", fn := fun _ => fun
  | [d1, d2, d3] => { results := [.lit (.bool false)], args := [d1, d2, d3] }
  | _ => none }
def LawS3072CScriptWrongFalsely : Prop := lawS3072CScriptRow.holds Yba.pinned (OpenSpec.ofChange lawS3072CScriptWrong)

end Rows
end Go.Proofs.Ybulkbkpe
