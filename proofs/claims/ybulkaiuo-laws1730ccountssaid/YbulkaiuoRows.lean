/-
  No cell of these rows narrows 'for every input' (looked for: loops, veiled, ifaces, maps, wideKeys, modest, calm, conditions, laid).
  DERIVED. THE GIVEN ROWS OF THIS SEAT. 2 by the template 'for every input the law returns true; each argument reads behind the call as it read before'; 0 by the template 'total and deterministic' (their statements: YbulkaiuoTotals.lean).
  GIVEN WITH THE SEED: the statements are not yours to turn. If you find one false, say at which input.
  Laid BY PROGRAM, IN A SANDBOX (cutbox-rows.mjs): the forced cells as the released guide's own fill.sh prints them over the translation 586e906d3c5932ba… (all of the seat's roots in one cut). By AI agents, Wed Nov 11 2026. No macro, syntax, notation, axiom, sorry.
-/
import Derived.Test.YbulkaiuoChecked
import GoSem.Claim
import GoSem.ClaimJoined
import GoSem.ClaimMapViews
import Derived.JoinedTies
import Derived.KernelRfl
namespace Go.Proofs.Ybulkaiuo
/- THE CELL 'sum', in the pinned program and in every row, IS THE sha256 OF THE DUMP (.gsa) THAT YbulkaiuoProg.lean LOADS. Nothing in Lean hashes anything: it is a label: what it is worth is what the hold of that sum in a sandbox is worth. -/
noncomputable def Yba.pinned : Pinned := { name := "ybulkaiuo", sum := "586e906d3c5932ba3d66b227994c98b1944b7d4a030fa386d2b615e71e818051", checked := Yba.checked }
namespace Rows
def none {H : Type} : Left H := { results := [], args := [] }

/-- 'graticule.LawS1730CCounts': WHATEVER THE INPUT: true; the input reads as it did. -/
def lawS1730CCountsSpec : ChangeSpec := { name := "lawS1730CCounts", fn := fun _ => fun
  | [d] => { results := [.lit (.bool true)], args := [d] }
  | _ => none }
def lawS1730CCountsRow : OpenClaim := { program := "ybulkaiuo", sum := "586e906d3c5932ba3d66b227994c98b1944b7d4a030fa386d2b615e71e818051", func := "example.com/graticule/graticule.LawS1730CCounts", spec := "lawS1730CCounts", apart := false }
def LawS1730CCountsSaid : Prop := lawS1730CCountsRow.holds Yba.pinned (OpenSpec.ofChange lawS1730CCountsSpec)

/-- ITS FALSE NEIGHBOUR: 'it returns false'. Refute it at one input. -/
def lawS1730CCountsWrong : ChangeSpec := { name := "lawS1730CCounts", fn := fun _ => fun
  | [d] => { results := [.lit (.bool false)], args := [d] }
  | _ => none }
def LawS1730CCountsWrongFalsely : Prop := lawS1730CCountsRow.holds Yba.pinned (OpenSpec.ofChange lawS1730CCountsWrong)

/-- 'graticule.LawS1730CMonotone': WHATEVER THE INPUT: true; the input reads as it did. -/
def lawS1730CMonotoneSpec : ChangeSpec := { name := "lawS1730CMonotone", fn := fun _ => fun
  | [d1, d2] => { results := [.lit (.bool true)], args := [d1, d2] }
  | _ => none }
def lawS1730CMonotoneRow : OpenClaim := { program := "ybulkaiuo", sum := "586e906d3c5932ba3d66b227994c98b1944b7d4a030fa386d2b615e71e818051", func := "example.com/graticule/graticule.LawS1730CMonotone", spec := "lawS1730CMonotone", apart := false }
def LawS1730CMonotoneSaid : Prop := lawS1730CMonotoneRow.holds Yba.pinned (OpenSpec.ofChange lawS1730CMonotoneSpec)

/-- ITS FALSE NEIGHBOUR: 'it returns false'. Refute it at one input. -/
def lawS1730CMonotoneWrong : ChangeSpec := { name := "lawS1730CMonotone", fn := fun _ => fun
  | [d1, d2] => { results := [.lit (.bool false)], args := [d1, d2] }
  | _ => none }
def LawS1730CMonotoneWrongFalsely : Prop := lawS1730CMonotoneRow.holds Yba.pinned (OpenSpec.ofChange lawS1730CMonotoneWrong)

end Rows
end Go.Proofs.Ybulkaiuo
