/-
  NARROWER THAN 'FOR EVERY INPUT', by the rows' own cells (each row's printed sentence says how): LawS1729CTable: laid.
  DERIVED. THE GIVEN ROWS OF THIS SEAT. 1 by the template 'for every input the law returns true; each argument reads behind the call as it read before'; 0 by the template 'total and deterministic' (their statements: YbulkaiuaFmtTotals.lean).
  GIVEN WITH THE SEED: the statements are not yours to turn. If you find one false, say at which input.
  Laid BY PROGRAM, IN A SANDBOX (cutbox-rows.mjs): the forced cells as the released guide's own fill.sh prints them over the translation cac2f957bf494994… (all of the seat's roots in one cut). By AI agents, Wed Nov 11 2026. No macro, syntax, notation, axiom, sorry.
-/
import Derived.Test.YbulkaiuaFmtChecked
import GoSem.Claim
import GoSem.ClaimJoined
import GoSem.ClaimMapViews
import Derived.JoinedTies
import Derived.KernelRfl
namespace Go.Proofs.YbulkaiuaFmt
/- THE CELL 'sum', in the pinned program and in every row, IS THE sha256 OF THE DUMP (.gsa) THAT YbulkaiuaFmtProg.lean LOADS. Nothing in Lean hashes anything: it is a label: what it is worth is what the hold of that sum in a sandbox is worth. -/
noncomputable def Ybaf.pinned : Pinned := { name := "ybulkaiuafmt", sum := "cac2f957bf49499431b93d736f20afe5ee29d3e70315d93e2022a10e796140df", checked := Ybaf.checked }
namespace Rows
def none {H : Type} : Left H := { results := [], args := [] }

/- WHAT THE LISTED PACKAGE-LEVEL VARIABLES READ AS WHEN THE CALL BEGINS. Each datum BY PROGRAM (the guide's laid-datum.mjs) off the statement by which the dump's own 'gosem.cut.vars' lays the variable. In a bare row this is a premise. The card (YbulkaiuaFmtCards.lean) ties it to the program's text. -/
def laid_example_com_stratumseal_stratumseal_bearers {H : Type} : DataW H := .agg [.lit (.int .u8 1), .lit (.int .u8 2)]

/-- 'stratumseal.LawS1729CTable': WHATEVER THE INPUT: true; the input reads as it did. -/
def lawS1729CTableSpec : ChangeSpec := { name := "lawS1729CTable", vars := ["example.com/stratumseal/stratumseal.bearers"], fn := fun _ => fun
  | [d, g1] => { results := [.lit (.bool true)], args := [d], vars := [g1] }
  | _ => none }
def lawS1729CTableRow : OpenClaim := { program := "ybulkaiuafmt", sum := "cac2f957bf49499431b93d736f20afe5ee29d3e70315d93e2022a10e796140df", func := "example.com/stratumseal/stratumseal.LawS1729CTable", spec := "lawS1729CTable", stops := ["fmt.errorf"], inPlace := ["fmt.errorf"], named := ["example.com/stratumseal/stratumseal.bearers"], apart := false, laid := [("example.com/stratumseal/stratumseal.bearers", laid_example_com_stratumseal_stratumseal_bearers)] }
/-- NO THEOREM (fmt's text is open here; it may be false): for the released tool's asking of the row's closed facts alone. THE STATEMENT IS 'LawS1729CTableToldSaid' (YbulkaiuaFmtCards.lean). -/
def LawS1729CTableFormAsk : Prop := lawS1729CTableRow.holds Ybaf.pinned (OpenSpec.ofChange lawS1729CTableSpec)

/-- ITS FALSE NEIGHBOUR: 'it returns false'. Refute it at one input. -/
def lawS1729CTableWrong : ChangeSpec := { name := "lawS1729CTable", vars := ["example.com/stratumseal/stratumseal.bearers"], fn := fun _ => fun
  | [d, g1] => { results := [.lit (.bool false)], args := [d], vars := [g1] }
  | _ => none }
def LawS1729CTableWrongFormAsk : Prop := lawS1729CTableRow.holds Ybaf.pinned (OpenSpec.ofChange lawS1729CTableWrong)

end Rows
end Go.Proofs.YbulkaiuaFmt
