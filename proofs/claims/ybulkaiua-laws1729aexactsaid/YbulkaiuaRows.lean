/-
  No cell of these rows narrows 'for every input' (looked for: loops, veiled, ifaces, maps, wideKeys, modest, calm, conditions, laid).
  DERIVED. THE GIVEN ROWS OF THIS SEAT. 4 by the template 'for every input the law returns true; each argument reads behind the call as it read before'; 0 by the template 'total and deterministic' (their statements: YbulkaiuaTotals.lean).
  GIVEN WITH THE SEED: the statements are not yours to turn. If you find one false, say at which input.
  Laid BY PROGRAM, IN A SANDBOX (cutbox-rows.mjs): the forced cells as the released guide's own fill.sh prints them over the translation 939233aced43d2d7… (all of the seat's roots in one cut). By AI agents, Wed Nov 11 2026. No macro, syntax, notation, axiom, sorry.
-/
import Derived.Test.YbulkaiuaChecked
import GoSem.Claim
import GoSem.ClaimJoined
import GoSem.ClaimMapViews
import Derived.JoinedTies
import Derived.KernelRfl
namespace Go.Proofs.Ybulkaiua
/- THE CELL 'sum', in the pinned program and in every row, IS THE sha256 OF THE DUMP (.gsa) THAT YbulkaiuaProg.lean LOADS. Nothing in Lean hashes anything: it is a label: what it is worth is what the hold of that sum in a sandbox is worth. -/
noncomputable def Yba.pinned : Pinned := { name := "ybulkaiua", sum := "939233aced43d2d74581c62b54e8f4df6bbf8733902530f1f69df204d149f72a", checked := Yba.checked }
namespace Rows
def none {H : Type} : Left H := { results := [], args := [] }

/-- 'stratumseal.LawS1729AExact': WHATEVER THE INPUT: true; the input reads as it did. -/
def lawS1729AExactSpec : ChangeSpec := { name := "lawS1729AExact", fn := fun _ => fun
  | [d1, d2, d3] => { results := [.lit (.bool true)], args := [d1, d2, d3] }
  | _ => none }
def lawS1729AExactRow : OpenClaim := { program := "ybulkaiua", sum := "939233aced43d2d74581c62b54e8f4df6bbf8733902530f1f69df204d149f72a", func := "example.com/stratumseal/stratumseal.LawS1729AExact", spec := "lawS1729AExact", apart := false }
def LawS1729AExactSaid : Prop := lawS1729AExactRow.holds Yba.pinned (OpenSpec.ofChange lawS1729AExactSpec)

/-- ITS FALSE NEIGHBOUR: 'it returns false'. Refute it at one input. -/
def lawS1729AExactWrong : ChangeSpec := { name := "lawS1729AExact", fn := fun _ => fun
  | [d1, d2, d3] => { results := [.lit (.bool false)], args := [d1, d2, d3] }
  | _ => none }
def LawS1729AExactWrongFalsely : Prop := lawS1729AExactRow.holds Yba.pinned (OpenSpec.ofChange lawS1729AExactWrong)

/-- 'stratumseal.LawS1729AUnaccepted': WHATEVER THE INPUT: true; the input reads as it did. -/
def lawS1729AUnacceptedSpec : ChangeSpec := { name := "lawS1729AUnaccepted", fn := fun _ => fun
  | [d1, d2, d3] => { results := [.lit (.bool true)], args := [d1, d2, d3] }
  | _ => none }
def lawS1729AUnacceptedRow : OpenClaim := { program := "ybulkaiua", sum := "939233aced43d2d74581c62b54e8f4df6bbf8733902530f1f69df204d149f72a", func := "example.com/stratumseal/stratumseal.LawS1729AUnaccepted", spec := "lawS1729AUnaccepted", apart := false }
def LawS1729AUnacceptedSaid : Prop := lawS1729AUnacceptedRow.holds Yba.pinned (OpenSpec.ofChange lawS1729AUnacceptedSpec)

/-- ITS FALSE NEIGHBOUR: 'it returns false'. Refute it at one input. -/
def lawS1729AUnacceptedWrong : ChangeSpec := { name := "lawS1729AUnaccepted", fn := fun _ => fun
  | [d1, d2, d3] => { results := [.lit (.bool false)], args := [d1, d2, d3] }
  | _ => none }
def LawS1729AUnacceptedWrongFalsely : Prop := lawS1729AUnacceptedRow.holds Yba.pinned (OpenSpec.ofChange lawS1729AUnacceptedWrong)

/-- 'cmac.LawS1729BModel': WHATEVER THE INPUT: true; the input reads as it did. -/
def lawS1729BModelSpec : ChangeSpec := { name := "lawS1729BModel", fn := fun _ => fun
  | [d] => { results := [.lit (.bool true)], args := [d] }
  | _ => none }
def lawS1729BModelRow : OpenClaim := { program := "ybulkaiua", sum := "939233aced43d2d74581c62b54e8f4df6bbf8733902530f1f69df204d149f72a", func := "example.com/stratumseal/stratumseal/internal/cmac.LawS1729BModel", spec := "lawS1729BModel", apart := false }
def LawS1729BModelSaid : Prop := lawS1729BModelRow.holds Yba.pinned (OpenSpec.ofChange lawS1729BModelSpec)

/-- ITS FALSE NEIGHBOUR: 'it returns false'. Refute it at one input. -/
def lawS1729BModelWrong : ChangeSpec := { name := "lawS1729BModel", fn := fun _ => fun
  | [d] => { results := [.lit (.bool false)], args := [d] }
  | _ => none }
def LawS1729BModelWrongFalsely : Prop := lawS1729BModelRow.holds Yba.pinned (OpenSpec.ofChange lawS1729BModelWrong)

/-- 'cmac.LawS1729BLinear': WHATEVER THE INPUT: true; the input reads as it did. -/
def lawS1729BLinearSpec : ChangeSpec := { name := "lawS1729BLinear", fn := fun _ => fun
  | [d1, d2] => { results := [.lit (.bool true)], args := [d1, d2] }
  | _ => none }
def lawS1729BLinearRow : OpenClaim := { program := "ybulkaiua", sum := "939233aced43d2d74581c62b54e8f4df6bbf8733902530f1f69df204d149f72a", func := "example.com/stratumseal/stratumseal/internal/cmac.LawS1729BLinear", spec := "lawS1729BLinear", apart := false }
def LawS1729BLinearSaid : Prop := lawS1729BLinearRow.holds Yba.pinned (OpenSpec.ofChange lawS1729BLinearSpec)

/-- ITS FALSE NEIGHBOUR: 'it returns false'. Refute it at one input. -/
def lawS1729BLinearWrong : ChangeSpec := { name := "lawS1729BLinear", fn := fun _ => fun
  | [d1, d2] => { results := [.lit (.bool false)], args := [d1, d2] }
  | _ => none }
def LawS1729BLinearWrongFalsely : Prop := lawS1729BLinearRow.holds Yba.pinned (OpenSpec.ofChange lawS1729BLinearWrong)

end Rows
end Go.Proofs.Ybulkaiua
