/-
  Small laws of my own on whole rows of cells: a struct stored into, and loaded from, the block that was laid last.
-/
import Derived.WalkKit
import Derived.Laws.Tables
import Derived.Laws.Rows
import Derived.Laws.IdiomCopy
import Derived.Below
namespace Go.Proofs.Ybulkaisy.Kit
open Go Go.RowKit
section
variable {P : Program}

theorem setRow_alloc (w : World) (old cs : Array Value) (t : TypeId) (fr : Nat × Nat) : (w.alloc (.cells old t fr)).setRow w.heap.size cs = w.alloc (.cells cs t fr) := by
  unfold World.setRow World.alloc
  simp only
  congr 1
  apply Array.ext
  · simp
  · intro i h1 h2
    simp only [Array.getElem_modify, Array.getElem_push]
    by_cases h : i < w.heap.size
    · simp [h, show ¬ w.heap.size = i by omega]
    · have e : w.heap.size = i := by simp at h1; omega
      subst e
      simp

/-- A whole struct or array stored into the block that was laid last. -/
theorem wpList_store_new {ops : Array Oper} {rest : List Oper} {o : Oper} {a : Act} {w : World} {Q : Exit → Act → World → Prop} (hgd : o.guard = none) (ty : TypeId) (x y : Operand) (ho : o.op = .store ty x y)
    (cells : Array Value) (hx : a.eval x = .pointer (some ⟨w.heap.size, 0, none⟩)) (hy : a.eval y = .agg cells)
    (t : TypeId) (old : Array Value) (hi : (P.info? ty).map (·.size) = some cells.size)
    (hold : old.size = cells.size) (h1 : cells.toList.all (·.oneCell') = true)
    (h : wpList P ops Q rest (a.put o.dst undef) (w.alloc (.cells cells t))) : wpList P ops Q (o :: rest) a (w.alloc (.cells old t)) :=
  wpList_store_row hgd ty x y ho w.heap.size cells hx hy t old (heap_alloc_new _ _) hi hold (by simpa using h1) (by rw [setRow_alloc]; exact h)

/-- A whole struct or array loaded from the block that was laid last. -/
theorem wpList_load_new {ops : Array Oper} {rest : List Oper} {o : Oper} {a : Act} {w : World} {Q : Exit → Act → World → Prop} (hgd : o.guard = none) (ty : TypeId) (x : Operand) (ho : o.op = .load ty x)
    (hx : a.eval x = .pointer (some ⟨w.heap.size, 0, none⟩)) (t : TypeId) (cs : Array Value) (d : TypeDesc)
    (hu : P.underlying ty = some d) (hd : (match d with | .struct _ | .array _ _ => true | _ => false) = true) (hi : (P.info? ty).map (·.size) = some cs.size)
    (h : wpList P ops Q rest (a.put o.dst (.agg cs)) (w.alloc (.cells cs t))) : wpList P ops Q (o :: rest) a (w.alloc (.cells cs t)) :=
  wpList_load_row hgd ty x ho w.heap.size hx t cs (0, 0) d (heap_alloc_new _ _) hu hd hi h

/-- A struct built: its parts' values and its cells told. -/
theorem wpList_build_to {ops : Array Oper} {rest : List Oper} {o : Oper} {a : Act} {w : World} {Q : Exit → Act → World → Prop} (hg : o.guard = none) (t : TypeId) (parts : Array (Nat × Operand)) (ho : o.op = .build t parts)
    (ps : List (Nat × Value)) (cells : Array Value) (hf : P.built t ps = some cells) (hp : parts.toList.map (fun p => (p.1, a.eval p.2)) = ps)
    (h : wpList P ops Q rest (a.put o.dst (.agg cells)) w) : wpList P ops Q (o :: rest) a w := by
  have e : (parts.map fun (i, x) => (i, a.eval x)).toList = ps := by rw [← hp]; simp
  exact wpList_build hg t parts ho (by rw [e, hf]; rfl) (by rw [e, hf]; exact h)

theorem bcell {B : Nat} {W w1 : World} (hb : Below B W w1) : (∀ b o, b < B → w1.cell? ⟨b, o, none⟩ = W.cell? ⟨b, o, none⟩) ∧ (∀ b o, b < B → w1.frozen? ⟨b, o, none⟩ = W.frozen? ⟨b, o, none⟩) :=
  ⟨fun b o h => hb.cell (p := ⟨b, o, none⟩) h, fun b o h => hb.frozen (p := ⟨b, o, none⟩) h⟩
end
end Go.Proofs.Ybulkaisy.Kit
