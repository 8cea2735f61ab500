/-
  THE PROOF OF 'Rows.LawS1729CTableToldSaid': the told and tied card: the walk for whatever fmt answers, taken at the told answers; the table 'bearers' off 'laid'; the tie is the given one.
-/
import Derived.Test.YbulkaiuaFmtCards
import Derived.Test.YbulkaiuaFmtTie
import Derived.Test.YbulkaiuaFmtWalk
import Derived.WalkKit
import Derived.ProofKit
import Derived.OpenShut
import Derived.OpenVars
import Derived.LaidMore
import Derived.LaidLaws
import Derived.Lib.LaidTab
import Derived.Deep.DeepWitnessRef
import Derived.Stop.JoinedTold
import Derived.SevenToldRow
import Derived.SevenTiedAt
namespace Go.Proofs.YbulkaiuaFmt.lawS1729CTable
open Go.ChangeShapes Go.WideShapes Go.ChangeAt Go.RowKit
open Go.Extern.Stop Go.Stop Go.Extern
set_option linter.unusedVariables false

theorem own : ownKnob Ybaf.prog.godebug = none := by kernel_rfl
theorem laidOut : laidOutB Ybaf.prog = true := by kernel_rfl
theorem laidOut' : laidOutB Ybaf.pinned.checked.prog = true := by kernel_rfl
theorem cells5 : Ybaf.prog.cellsOf 5 = 1 := by kernel_rfl
theorem cells29 : Ybaf.prog.cellsOf 29 = 2 := by kernel_rfl

/-- The door's own heap meets 'laid'. -/
theorem door_met (os : Os) (args : Array Value) : laidMet Ybaf.prog Rows.lawS1729CTableRow.laid ((World.doorLaid Ybaf.prog 400 os).forCall (fun _ _ => 0) ⟨#[], args, []⟩).memory :=
  laidMet_of_run' 8 (by kernel_rfl) (by kernel_rfl)

theorem tab {W : World} (h : laidMet Ybaf.prog Rows.lawS1729CTableRow.laid W) : W.cell? ⟨0, 0, none⟩ = some (.int .u8 1) ∧ W.cell? ⟨0, 1, none⟩ = some (.int .u8 2) := by
  have t := Lib.tabIs_of_head (g := 0) (t := 29) (e := 5) (n := 2) (k := .u8) (zs := [1, 2]) (by kernel_rfl) (by kernel_rfl) Ybaf.underlying29 Ybaf.underlying5 cells5 cells29 h
  exact ⟨t.cell (by kernel_rfl) 0 (by decide), t.cell (by kernel_rfl) 1 (by decide)⟩

set_option maxRecDepth 100000 in
set_option maxHeartbeats 1600000 in
theorem lifted (os : Os) (started : os.Started) (H : Type) (enc : TypeId × Value → H) :
    ReturnsInTold none {} Ybaf.checked os 3 .any Input.okWide ((OpenSpec.ofChange Rows.lawS1729CTableSpec).preRow enc Ybaf.prog Ybaf.f3 Rows.lawS1729CTableRow.domain false Rows.lawS1729CTableRow.laid)
      (fun F => ((OpenSpec.ofChange Rows.lawS1729CTableSpec).at F).post enc Ybaf.prog Ybaf.f3 false true false false) (aloneAtReturn Ybaf.prog) nothingAlways := by
  refine returnsInTold_of_row (C := Ybaf.checked) (s := OpenSpec.ofChange Rows.lawS1729CTableSpec) (by kernel_rfl) own started (by kernel_rfl) Ybaf.func3
    (OpenSpec.witness_stopped_atRef (enc := enc) (C := Ybaf.checked) false (World.doorLaid Ybaf.prog 400 os) #[.int .u8 0] rfl (by kernel_rfl) (by kernel_rfl) (by kernel_rfl)
      (OpenSpec.preRow_of_B rfl 8 (by kernel_rfl) (by kernel_rfl) (door_met os _))) ?_
  intro F W base args ds gs before _ hF hval0 hW _ _ _ hL _
  have hval : ∀ (j : Nat) t v, Ybaf.f3.params[j]? = some t → args[j]? = some v → Value.okWide Ybaf.prog W .any base t v := hval0
  have hW' := hW
  obtain ⟨p, q, hA0, hV, rfl, hfz, hnd⟩ := hW
  have hA : DataW.TrodAll enc Ybaf.prog W 0 (fun _ => true) true Ybaf.f3.params.toList args.toList ds p := hA0
  rw [Ybaf.params3] at hA hval
  obtain ⟨v0, d0, rfl, rfl, h0⟩ := trodAll_one hA
  obtain ⟨x, rfl, rfl, rfl, wx⟩ := open_int Ybaf.underlying5 (hval 0 5 v0 rfl rfl) h0
  have hb := bounds_u8 wx
  obtain ⟨c0, c1⟩ := tab hL
  obtain ⟨g1, rfl⟩ : ∃ g1, gs = [g1] := by
    match gs, hV with
    | [g1], _ => exact ⟨g1, rfl⟩
  clear hA0 hval0
  refine (TWalk.law3 F.told x W hF hb.1 hb.2 c0 c1).mono fun e W' ⟨he, bel⟩ => ?_
  subst he
  refine ⟨_, rfl, _, _, _, [], [], q, hW', ?_, ?_, ?_, bel.frame _, fun h => by cases h⟩
  · exact trodAll_mk1 (shut_bool Ybaf.underlying4 _)
  · exact trodAll_mk1 (shut_int Ybaf.underlying5 wx)
  · exact Below.trodVars laidOut bel (by kernel_rfl) hV

theorem stops : Ybaf.pinned.checked.prog.stops = Rows.lawS1729CTableRow.stops := by kernel_rfl
theorem stopKnobs : Ybaf.pinned.checked.prog.stopKnobs = [] := by kernel_rfl
theorem quiet (os : Os) : Stop.quiet Ybaf.pinned.checked.prog os := by
  intro k hk
  rw [stopKnobs] at hk
  cases hk

theorem proved : Rows.LawS1729CTableToldSaid :=
  Claim7.holds_of_told_tied_any_at .later 3 Ybaf.f3 "fmt.errorf" [] [] _ _ _ _ _ (by kernel_rfl) rfl rfl rfl laidOut' (by kernel_rfl) rfl ⟨rfl, rfl, rfl, rfl, rfl, rfl, rfl⟩ rfl rfl (by kernel_rfl) (by kernel_rfl) Ybaf.func3 (by kernel_rfl)
    (of_decide_eq_true (by kernel_rfl)) (of_decide_eq_true (by kernel_rfl)) stops.symm rfl stopKnobs.symm (by kernel_rfl)
    (by kernel_rfl) (by kernel_rfl) (by kernel_rfl) (by kernel_rfl) (by kernel_rfl) (by kernel_rfl) (by kernel_rfl) (by kernel_rfl) (by kernel_rfl) rfl (by kernel_rfl) rfl rfl
    rfl rfl
    rfl (by kernel_rfl) (by kernel_rfl) (by kernel_rfl) (by decide) (by kernel_rfl) lawS1729CTable_row_tie
    (OpenClaim.moreEntering_of (by kernel_rfl) (by kernel_rfl) (by kernel_rfl) (by kernel_rfl) (by kernel_rfl) (by kernel_rfl) (by kernel_rfl) (by kernel_rfl) (by kernel_rfl) (by kernel_rfl))
    ⟨_, WideRow.started_initial, quiet _⟩
    (fun os started _ H enc _ => lifted os started H enc)
#print axioms proved
end Go.Proofs.YbulkaiuaFmt.lawS1729CTable
