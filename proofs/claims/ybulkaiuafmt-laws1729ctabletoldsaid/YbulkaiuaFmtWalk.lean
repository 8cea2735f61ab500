/-
  THE WALKS of accessError (function 5) and LawS1729CTable (function 3), for whatever fmt answers.
-/
import Derived.Test.YbulkaiuaFmtFacts
import Derived.WalkKit
import Derived.WalkSpells
import Derived.WalkLawsBesides
import Derived.Outline
import Derived.Below
namespace Go.Proofs.YbulkaiuaFmt.TWalk
open Go.RowKit Go.Extern.Stop Go.Stop Go.Extern
set_option linter.unusedVariables false
attribute [local go_sem] Facts.call7 Facts.guard Facts.fmt0 Facts.fmt0r Facts.op26 Facts.op26w Facts.ptr34 Facts.elem34

set_option maxRecDepth 100000 in
set_option maxHeartbeats 400000 in
theorem err5 (F : Interp) (x : Int) (w : World) (hF : F.answers w.tape) (h0 : 0 ≤ x) (h1 : x ≤ 255) :
    Calls Ybaf.prog 5 #[.int .u8 x] w fun e w' => (∃ a, e = .returned (.iface 34 (.pointer (some a)))) ∧ Below w.heap.size w w' := by
  have hF' := answers_open hF
  go_enter Ybaf.func5, Ybaf.ntmps5
  go_wp2
  go_ret
  exact ⟨⟨⟨w.heap.size + 1, 0, none⟩, rfl⟩, (((Below.refl _ _).alloc (Nat.le_refl _) _).alloc (by simp) _).drew⟩

set_option maxRecDepth 100000 in
set_option maxHeartbeats 400000 in
theorem bad3 (F : Interp) (x : Int) (w : World) (hF : F.answers w.tape) (h0 : 2 ≤ x) (h1 : x ≤ 255) :
    Calls Ybaf.prog 3 #[.int .u8 x] w fun e w' => e = .returned (.bool true) ∧ Below w.heap.size w w' := by
  have HF : Hid (F.answers w.tape) := hF
  have q0 : (x == 0) = false := by rw [beq_eq_false_iff_ne]; omega
  have q1 : (x == 1) = false := by rw [beq_eq_false_iff_ne]; omega
  clear hF
  go_enter Ybaf.func3, Ybaf.ntmps3
  go_wp2_with (first
    | (go_at_call 5; refine (err5 F x _ HF.out (by omega) h1).mono ?_; rintro e w1 ⟨⟨a, rfl⟩, hb⟩)
    | go_in)
  go_ret
  exact ⟨rfl, hb⟩

set_option maxRecDepth 100000 in
set_option maxHeartbeats 400000 in
theorem zero3 (w : World) (h : w.cell? ⟨0, 0, none⟩ = some (.int .u8 1)) :
    Calls Ybaf.prog 3 #[.int .u8 0] w fun e w' => e = .returned (.bool true) ∧ Below w.heap.size w w' := by
  go_enter Ybaf.func3, Ybaf.ntmps3
  go_wp2
  go_ret
  exact ⟨rfl, Below.refl _ _⟩

set_option maxRecDepth 100000 in
set_option maxHeartbeats 400000 in
theorem one3 (w : World) (h : w.cell? ⟨0, 1, none⟩ = some (.int .u8 2)) :
    Calls Ybaf.prog 3 #[.int .u8 1] w fun e w' => e = .returned (.bool true) ∧ Below w.heap.size w w' := by
  go_enter Ybaf.func3, Ybaf.ntmps3
  go_wp2
  go_ret
  exact ⟨rfl, Below.refl _ _⟩

theorem law3 (F : Interp) (x : Int) (w : World) (hF : F.answers w.tape) (h0 : 0 ≤ x) (h1 : x ≤ 255) (c0 : w.cell? ⟨0, 0, none⟩ = some (.int .u8 1)) (c1 : w.cell? ⟨0, 1, none⟩ = some (.int .u8 2)) :
    Calls Ybaf.prog 3 #[.int .u8 x] w fun e w' => e = .returned (.bool true) ∧ Below w.heap.size w w' := by
  by_cases e0 : x = 0
  · subst e0; exact zero3 w c0
  · by_cases e1 : x = 1
    · subst e1; exact one3 w c1
    · exact bad3 F x w hF (by omega) h1
end Go.Proofs.YbulkaiuaFmt.TWalk
