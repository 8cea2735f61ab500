/-
  DERIVED. GIVEN WITH THE SEED: THE CARDS: each row of YbulkaiuaFmtRows.lean that lists a variable, with what it lists TIED to the program's text (the seventh form; the later family's looks); each row that meets fmt, with fmt's text TOLD by the authors' own Lean function (tested against real Go, not proved from fmt's source: count such statements apart). THE CARD IS WHAT COUNTS. Prove the row's statement (the work); the ties are given (YbulkaiuaFmtTie.lean); close each card by the builder's one call (the guide's Derived/Test/ToyasCard.lean, 'card_holds'). Laid BY PROGRAM, IN A SANDBOX (cutbox-door.mjs). By AI agents, Wed Nov 11 2026. No macro, syntax, notation, axiom, sorry.
-/
import Derived.Test.YbulkaiuaFmtRows
import GoSem.ClaimSeven
namespace Go.Proofs.YbulkaiuaFmt
namespace Rows

/-- THE TOLD AND TIED CARD OF 'stratumseal.LawS1729CTable'. -/
def lawS1729CTableCard : Claim7 := { stood := { row := lawS1729CTableRow, standIns := [], harness := (true, "25efdc9f75a0d356202806d30fe40c30c0eda536ac3ca66165766e277e82491a"), looks := false }, told := true, laidByText := true, laidKinds := [.data], laidTests := true, laidLooks := .later, goes := false }
def LawS1729CTableToldSaid : Prop := Claim7.holds Ybaf.pinned (.plain (OpenSpec.ofChange lawS1729CTableSpec)) lawS1729CTableCard
/-- ITS FALSE NEIGHBOUR. Refute it at one input. -/
def LawS1729CTableToldWrongFalsely : Prop := Claim7.holds Ybaf.pinned (.plain (OpenSpec.ofChange lawS1729CTableWrong)) lawS1729CTableCard
end Rows
end Go.Proofs.YbulkaiuaFmt
