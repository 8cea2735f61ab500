/-
  No cell of these rows narrows 'for every input' (looked for: loops, veiled, ifaces, maps, wideKeys, modest, calm, conditions, laid).
  DERIVED. THE GIVEN ROWS OF THIS SEAT. 3 by the template 'for every input the law returns true; each argument reads behind the call as it read before'; 0 by the template 'total and deterministic' (their statements: YbulkaisyTotals.lean).
  GIVEN WITH THE SEED: the statements are not yours to turn. If you find one false, say at which input.
  Laid BY PROGRAM, IN A SANDBOX (cutbox-rows.mjs): the forced cells as the released guide's own fill.sh prints them over the translation 9fcb6d0ab4f794e3… (all of the seat's roots in one cut). By AI agents, Wed Nov 11 2026. No macro, syntax, notation, axiom, sorry.
-/
import Derived.Test.YbulkaisyChecked
import GoSem.Claim
import GoSem.ClaimJoined
import GoSem.ClaimMapViews
import Derived.JoinedTies
import Derived.KernelRfl
namespace Go.Proofs.Ybulkaisy
/- THE CELL 'sum', in the pinned program and in every row, IS THE sha256 OF THE DUMP (.gsa) THAT YbulkaisyProg.lean LOADS. Nothing in Lean hashes anything: it is a label: what it is worth is what the hold of that sum in a sandbox is worth. -/
noncomputable def Yba.pinned : Pinned := { name := "ybulkaisy", sum := "9fcb6d0ab4f794e354db046e4ad100cdfbc71996129b59346e315de8656821bc", checked := Yba.checked }
namespace Rows
def none {H : Type} : Left H := { results := [], args := [] }

/-- 'lanthorn.LawS1727AExact': WHATEVER THE INPUT: true; the input reads as it did. -/
def lawS1727AExactSpec : ChangeSpec := { name := "lawS1727AExact", fn := fun _ => fun
  | [d1, d2, d3, d4] => { results := [.lit (.bool true)], args := [d1, d2, d3, d4] }
  | _ => none }
def lawS1727AExactRow : OpenClaim := { program := "ybulkaisy", sum := "9fcb6d0ab4f794e354db046e4ad100cdfbc71996129b59346e315de8656821bc", func := "example.com/lanthorn/lanthorn.LawS1727AExact", spec := "lawS1727AExact", apart := false }
def LawS1727AExactSaid : Prop := lawS1727AExactRow.holds Yba.pinned (OpenSpec.ofChange lawS1727AExactSpec)

/-- ITS FALSE NEIGHBOUR: 'it returns false'. Refute it at one input. -/
def lawS1727AExactWrong : ChangeSpec := { name := "lawS1727AExact", fn := fun _ => fun
  | [d1, d2, d3, d4] => { results := [.lit (.bool false)], args := [d1, d2, d3, d4] }
  | _ => none }
def LawS1727AExactWrongFalsely : Prop := lawS1727AExactRow.holds Yba.pinned (OpenSpec.ofChange lawS1727AExactWrong)

/-- 'lanthorn.LawS1727CMarks': WHATEVER THE INPUT: true; the input reads as it did. -/
def lawS1727CMarksSpec : ChangeSpec := { name := "lawS1727CMarks", fn := fun _ => fun
  | [d1, d2, d3] => { results := [.lit (.bool true)], args := [d1, d2, d3] }
  | _ => none }
def lawS1727CMarksRow : OpenClaim := { program := "ybulkaisy", sum := "9fcb6d0ab4f794e354db046e4ad100cdfbc71996129b59346e315de8656821bc", func := "example.com/lanthorn/lanthorn.LawS1727CMarks", spec := "lawS1727CMarks", inPlace := ["(*internal/sync.Mutex).Lock", "internal/race.Disable", "sync/atomic.CompareAndSwapInt32", "internal/race.Enable", "internal/race.Acquire", "(*internal/sync.Mutex).lockSlow", "internal/sync.runtime_canSpin", "internal/sync.runtime_doSpin", "internal/sync.throw", "internal/sync.runtime_nanotime", "internal/sync.runtime_SemacquireMutex", "sync/atomic.AddInt32", "(*internal/sync.Mutex).Unlock", "internal/race.ReleaseMerge", "(*internal/sync.Mutex).unlockSlow", "internal/sync.fatal", "internal/sync.runtime_Semrelease"], unfollowed := true, recurses := true, apart := false }
def LawS1727CMarksSaid : Prop := lawS1727CMarksRow.holds Yba.pinned (OpenSpec.ofChange lawS1727CMarksSpec)

/-- ITS FALSE NEIGHBOUR: 'it returns false'. Refute it at one input. -/
def lawS1727CMarksWrong : ChangeSpec := { name := "lawS1727CMarks", fn := fun _ => fun
  | [d1, d2, d3] => { results := [.lit (.bool false)], args := [d1, d2, d3] }
  | _ => none }
def LawS1727CMarksWrongFalsely : Prop := lawS1727CMarksRow.holds Yba.pinned (OpenSpec.ofChange lawS1727CMarksWrong)

/-- 'lanthorn.LawS1727CMarksHeld': WHATEVER THE INPUT: true; the input reads as it did. -/
def lawS1727CMarksHeldSpec : ChangeSpec := { name := "lawS1727CMarksHeld", fn := fun _ => fun
  | [d1, d2, d3] => { results := [.lit (.bool true)], args := [d1, d2, d3] }
  | _ => none }
def lawS1727CMarksHeldRow : OpenClaim := { program := "ybulkaisy", sum := "9fcb6d0ab4f794e354db046e4ad100cdfbc71996129b59346e315de8656821bc", func := "example.com/lanthorn/lanthorn.LawS1727CMarksHeld", spec := "lawS1727CMarksHeld", inPlace := ["(*internal/sync.Mutex).Lock", "internal/race.Disable", "sync/atomic.CompareAndSwapInt32", "internal/race.Enable", "internal/race.Acquire", "(*internal/sync.Mutex).lockSlow", "internal/sync.runtime_canSpin", "internal/sync.runtime_doSpin", "internal/sync.throw", "internal/sync.runtime_nanotime", "internal/sync.runtime_SemacquireMutex", "sync/atomic.AddInt32", "(*internal/sync.Mutex).Unlock", "internal/race.ReleaseMerge", "(*internal/sync.Mutex).unlockSlow", "internal/sync.fatal", "internal/sync.runtime_Semrelease"], unfollowed := true, recurses := true, apart := false }
def LawS1727CMarksHeldSaid : Prop := lawS1727CMarksHeldRow.holds Yba.pinned (OpenSpec.ofChange lawS1727CMarksHeldSpec)

/-- ITS FALSE NEIGHBOUR: 'it returns false'. Refute it at one input. -/
def lawS1727CMarksHeldWrong : ChangeSpec := { name := "lawS1727CMarksHeld", fn := fun _ => fun
  | [d1, d2, d3] => { results := [.lit (.bool false)], args := [d1, d2, d3] }
  | _ => none }
def LawS1727CMarksHeldWrongFalsely : Prop := lawS1727CMarksHeldRow.holds Yba.pinned (OpenSpec.ofChange lawS1727CMarksHeldWrong)

end Rows
end Go.Proofs.Ybulkaisy
