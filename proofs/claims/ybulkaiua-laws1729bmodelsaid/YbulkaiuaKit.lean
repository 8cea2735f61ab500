/-
  Small laws of my own, for whatever program: cells of memory in a row ('At'); a struct or array loaded from the middle of a block; a struct or array stored into, and loaded from, the block that was laid last.
-/
import Derived.WalkKit
import Derived.Laws.Tables
import Derived.Laws.Rows
import Derived.Laws.CopyRow
import Derived.Laws.MakeOwn
import Derived.Laws.StructEq
import Derived.DeepKeys
import Derived.MapViews
import Derived.Deep.QuietTactic
import Derived.BigQuiet
import Derived.Below
namespace Go.Proofs.Ybulkaiua.Kit
open Go Go.RowKit

/-- From place o of block b on memory holds cs. -/
def At (w : World) (b o : Nat) (cs : List Value) : Prop := ∀ j v, cs[j]? = some v → w.cell? ⟨b, o + j, none⟩ = some v

theorem plainAdd (b o j : Nat) : (⟨b, o, none⟩ : Addr).add j = ⟨b, o + j, none⟩ := by unfold Addr.add; split <;> simp_all

theorem At.below {w w' : World} {B b o : Nat} {cs : List Value} (h : At w b o cs) (hb : Below B w w') (hB : b < B) : At w' b o cs :=
  fun j v hj => (hb.cell (p := ⟨b, o + j, none⟩) hB).trans (h j v hj)

theorem At.block {w w' : World} {b o : Nat} {cs : List Value} (h : At w b o cs) (hb : w'.heap[b]? = w.heap[b]?) : At w' b o cs :=
  fun j v hj => (World.cell?_of_block (w := w) (a := ⟨b, o + j, none⟩) hb).trans (h j v hj)

theorem At.sub {w : World} {b o : Nat} {cs : List Value} (h : At w b o cs) (k n : Nat) : At w b (o + k) ((cs.drop k).take n) := by
  intro j v hj
  rw [List.getElem?_take] at hj
  split at hj
  · rw [List.getElem?_drop] at hj
    have := h (k + j) v hj
    rwa [← Nat.add_assoc] at this
  · cases hj

theorem At.ofHeap {w : World} {b : Nat} {cs : Array Value} {t : TypeId} {fr : Nat × Nat} (h : w.heap[b]? = some (.cells cs t fr)) : At w b 0 cs.toList := by
  intro j v hj
  rw [Nat.zero_add, cell_of_row w b j cs t fr h]
  simpa using hj

theorem At.lt {w : World} {b o : Nat} {cs : List Value} (h : At w b o cs) (hp : 0 < cs.length) : b < w.heap.size := by
  have := h 0 (cs[0]) (by simp [hp])
  exact block_lt_of_cell this

theorem At.alloc {w : World} {b o : Nat} {cs : List Value} (h : At w b o cs) (x : Obj) (hb : b < w.heap.size) : At (w.alloc x) b o cs :=
  h.block (Below.heap_alloc w x b hb)

theorem At.drewN {w : World} {b o : Nat} {cs : List Value} (h : At w b o cs) (n : Nat) : At (w.drewN n) b o cs := h.block (by simp [World.drewN])

theorem At.setOther {w : World} {b o : Nat} {cs : List Value} (h : At w b o cs) (a : Addr) (v : Value) (hne : b ≠ a.block) : At (w.setCell a v) b o cs :=
  h.block (heap_setCell_other w a b v hne)

section
variable {P : Program}

theorem run_loadVar_at (w : World) (b o : Nat) (ty : TypeId) (cs : Array Value) (d : TypeDesc) (hc : At w b o cs.toList)
    (hu : P.underlying ty = some d) (hd : (match d with | .struct _ | .array _ _ => true | _ => false) = true) (hi : (P.info? ty).map (·.size) = some cs.size) :
    (loadVar ty ⟨b, o, none⟩).run P w = .ok (.agg cs) w := by
  have hl : (loadCells ⟨b, o, none⟩ cs.toList.length).run P w = .ok cs.toList.toArray w :=
    run_loadCells_list (P := P) w ⟨b, o, none⟩ cs.toList (fun j v hv => by rw [plainAdd]; exact hc j v hv)
  cases hq : P.info? ty with
  | none => simp [hq] at hi
  | some i =>
    have hs : i.size = cs.size := by simpa [hq] using hi
    have hagg : (isAgg ty).run P w = .ok true w := by
      unfold isAgg
      rw [Sem.run_bind, run_underlying hu w]
      cases d <;> simp_all
    simp only [Array.length_toList, Array.toArray_toList] at hl
    simp [loadVar, Sem.run_bind, hagg, sizeOf, typeInfo, hq, hs, hl]

theorem wpList_load_at {ops : Array Oper} {rest : List Oper} {o : Oper} {a : Act} {w : World} {Q : Exit → Act → World → Prop} (hgd : o.guard = none) (ty : TypeId) (x : Operand) (ho : o.op = .load ty x)
    (b off : Nat) (cs : Array Value) (hx : a.eval x = .pointer (some ⟨b, off, none⟩)) (d : TypeDesc)
    (hu : P.underlying ty = some d) (hd : (match d with | .struct _ | .array _ _ => true | _ => false) = true) (hi : (P.info? ty).map (·.size) = some cs.size) (hc : At w b off cs.toList)
    (h : wpList P ops Q rest (a.put o.dst (.agg cs)) w) : wpList P ops Q (o :: rest) a w := by
  refine wpList_plain hgd fun K hK => ?_
  unfold Oper.wp execOp
  simp only [ho, hx, Instr.loadAt, Instr.sureAddr, Sem.run_bind, Sem.run_pure, Result.andThen_ok, run_loadVar_at w b off ty cs d hc hu hd hi]
  exact hK _ _ h

/-- .. as one step of a quiet walk. -/
theorem wpQuiet_load_at {ops : Array Oper} {rest : List Oper} {o : Oper} {a : Act} {w : World} {Q : Act → Prop} (hw : Region.wanted o (yielded ops a.tmps) = true) (ty : TypeId) (x : Operand) (ho : o.op = .load ty x)
    (b off : Nat) (cs : Array Value) (hx : a.eval x = .pointer (some ⟨b, off, none⟩)) (d : TypeDesc)
    (hu : P.underlying ty = some d) (hd : (match d with | .struct _ | .array _ _ => true | _ => false) = true) (hi : (P.info? ty).map (·.size) = some cs.size) (hc : At w b off cs.toList)
    (h : wpQuiet P ops (fun w' => ∃ n, w' = w.drewN n) Q rest (a.put o.dst (.agg cs))) : wpQuiet P ops (fun w' => ∃ n, w' = w.drewN n) Q (o :: rest) a := by
  refine BigFrame.wpQuiet_want hw fun K hK => ⟨.agg cs, ?_, hK _ h⟩
  rintro w' ⟨n, rfl⟩
  unfold Oper.quietAt execOp
  simp only [ho, hx, Instr.loadAt, Instr.sureAddr, Sem.run_bind, Sem.run_pure, Result.andThen_ok, run_loadVar_at (w.drewN n) b off ty cs d (hc.drewN n) hu hd hi]
  exact ⟨rfl, rfl⟩

/-- An operation on two values whose run is known in every world, as one step of a quiet walk. -/
theorem wpQuiet_binOp {ops : Array Oper} {rest : List Oper} {o : Oper} {a : Act} {C : World → Prop} {Q : Act → Prop} (hw : Region.wanted o (yielded ops a.tmps) = true) (op : BinOp) (ty rt : TypeId) (x y : Operand) (ho : o.op = .binOp op ty x y rt)
    (u v r : Value) (hx : a.eval x = u) (hy : a.eval y = v) (hg : ∀ w : World, (eqGuard op ty x y u v).run P w = .ok () w) (hr : ∀ w : World, (binOp op ty u v).run P w = .ok r w)
    (h : wpQuiet P ops C Q rest (a.put o.dst r)) : wpQuiet P ops C Q (o :: rest) a := by
  refine BigFrame.wpQuiet_want hw fun K hK => ⟨r, ?_, hK _ h⟩
  intro w' _
  unfold Oper.quietAt execOp
  simp only [ho, hx, hy, Sem.run_bind, hg, Result.andThen_ok, hr, Sem.run_pure]
  exact ⟨rfl, rfl⟩

theorem wpList_binOp {ops : Array Oper} {rest : List Oper} {o : Oper} {a : Act} {w : World} {Q : Exit → Act → World → Prop} (hgd : o.guard = none) (op : BinOp) (ty rt : TypeId) (x y : Operand) (ho : o.op = .binOp op ty x y rt)
    (u v r : Value) (hx : a.eval x = u) (hy : a.eval y = v) (hg : ∀ w : World, (eqGuard op ty x y u v).run P w = .ok () w) (hr : ∀ w : World, (binOp op ty u v).run P w = .ok r w)
    (h : wpList P ops Q rest (a.put o.dst r) w) : wpList P ops Q (o :: rest) a w := by
  refine wpList_plain hgd fun K hK => ?_
  unfold Oper.wp execOp
  simp only [ho, hx, hy, Sem.run_bind, hg, Result.andThen_ok, hr, Sem.run_pure]
  exact hK _ _ h

theorem setRow_alloc (w : World) (old cs : Array Value) (t : TypeId) (fr : Nat × Nat) : (w.alloc (.cells old t fr)).setRow w.heap.size cs = w.alloc (.cells cs t fr) := by
  unfold World.setRow World.alloc
  simp only
  congr 1
  apply Array.ext
  · simp
  · intro i h1 h2
    simp only [Array.getElem_modify, Array.getElem_push]
    by_cases h : i < w.heap.size
    · simp [h, show ¬ w.heap.size = i by omega]
    · have e : w.heap.size = i := by simp at h1; omega
      subst e
      simp

/-- A whole struct or array stored into the block that was laid last. -/
theorem wpList_store_new {ops : Array Oper} {rest : List Oper} {o : Oper} {a : Act} {w : World} {Q : Exit → Act → World → Prop} (hgd : o.guard = none) (ty : TypeId) (x y : Operand) (ho : o.op = .store ty x y)
    (cells : Array Value) (hx : a.eval x = .pointer (some ⟨w.heap.size, 0, none⟩)) (hy : a.eval y = .agg cells)
    (t : TypeId) (old : Array Value) (hi : (P.info? ty).map (·.size) = some cells.size)
    (hold : old.size = cells.size) (h1 : cells.toList.all (·.oneCell') = true)
    (h : wpList P ops Q rest (a.put o.dst undef) (w.alloc (.cells cells t))) : wpList P ops Q (o :: rest) a (w.alloc (.cells old t)) :=
  wpList_store_row hgd ty x y ho w.heap.size cells hx hy t old (heap_alloc_new _ _) hi hold (by simpa using h1) (by rw [setRow_alloc]; exact h)

/-- A whole struct or array loaded from the block that was laid last. -/
theorem wpList_load_new {ops : Array Oper} {rest : List Oper} {o : Oper} {a : Act} {w : World} {Q : Exit → Act → World → Prop} (hgd : o.guard = none) (ty : TypeId) (x : Operand) (ho : o.op = .load ty x)
    (hx : a.eval x = .pointer (some ⟨w.heap.size, 0, none⟩)) (t : TypeId) (cs : Array Value) (d : TypeDesc)
    (hu : P.underlying ty = some d) (hd : (match d with | .struct _ | .array _ _ => true | _ => false) = true) (hi : (P.info? ty).map (·.size) = some cs.size)
    (h : wpList P ops Q rest (a.put o.dst (.agg cs)) (w.alloc (.cells cs t))) : wpList P ops Q (o :: rest) a (w.alloc (.cells cs t)) :=
  wpList_load_row hgd ty x ho w.heap.size hx t cs (0, 0) d (heap_alloc_new _ _) hu hd hi h

/-- A struct built: its parts' values and its cells told. -/
theorem wpList_build_to {ops : Array Oper} {rest : List Oper} {o : Oper} {a : Act} {w : World} {Q : Exit → Act → World → Prop} (hg : o.guard = none) (t : TypeId) (parts : Array (Nat × Operand)) (ho : o.op = .build t parts)
    (ps : List (Nat × Value)) (cells : Array Value) (hf : P.built t ps = some cells) (hp : parts.toList.map (fun p => (p.1, a.eval p.2)) = ps)
    (h : wpList P ops Q rest (a.put o.dst (.agg cells)) w) : wpList P ops Q (o :: rest) a w := by
  have e : (parts.map fun (i, x) => (i, a.eval x)).toList = ps := by rw [← hp]; simp
  exact wpList_build hg t parts ho (by rw [e, hf]; rfl) (by rw [e, hf]; exact h)

theorem bcell {B : Nat} {W w1 : World} (hb : Below B W w1) : (∀ b o, b < B → w1.cell? ⟨b, o, none⟩ = W.cell? ⟨b, o, none⟩) ∧ (∀ b o, b < B → w1.frozen? ⟨b, o, none⟩ = W.frozen? ⟨b, o, none⟩) :=
  ⟨fun b o h => hb.cell (p := ⟨b, o, none⟩) h, fun b o h => hb.frozen (p := ⟨b, o, none⟩) h⟩
end
end Go.Proofs.Ybulkaiua.Kit
