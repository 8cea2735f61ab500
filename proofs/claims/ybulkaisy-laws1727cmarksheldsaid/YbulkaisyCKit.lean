/-
  Small laws of my own, for whatever program: cells of memory in a row ('At'); a struct or array loaded from the middle of a block; 'copy' of elements of several cells into a row that the call made.
-/
import Derived.WalkKit
import Derived.Laws.Tables
import Derived.Laws.Rows
import Derived.Laws.CopyRow
import Derived.Laws.MakeOwn
import Derived.Laws.StructEq
import Derived.DeepKeys
import Derived.MapViews
import Derived.Deep.QuietTactic
import Derived.BigQuiet
import Derived.Below
namespace Go.Proofs.Ybulkaisy.CKit
open Go Go.RowKit

/-- From place o of block b on memory holds cs. -/
def At (w : World) (b o : Nat) (cs : List Value) : Prop := ∀ j v, cs[j]? = some v → w.cell? ⟨b, o + j, none⟩ = some v

theorem plainAdd (b o j : Nat) : (⟨b, o, none⟩ : Addr).add j = ⟨b, o + j, none⟩ := by unfold Addr.add; split <;> simp_all

theorem At.below {w w' : World} {B b o : Nat} {cs : List Value} (h : At w b o cs) (hb : Below B w w') (hB : b < B) : At w' b o cs :=
  fun j v hj => (hb.cell (p := ⟨b, o + j, none⟩) hB).trans (h j v hj)

theorem At.block {w w' : World} {b o : Nat} {cs : List Value} (h : At w b o cs) (hb : w'.heap[b]? = w.heap[b]?) : At w' b o cs :=
  fun j v hj => (World.cell?_of_block (w := w) (a := ⟨b, o + j, none⟩) hb).trans (h j v hj)

theorem At.sub {w : World} {b o : Nat} {cs : List Value} (h : At w b o cs) (k n : Nat) : At w b (o + k) ((cs.drop k).take n) := by
  intro j v hj
  rw [List.getElem?_take] at hj
  split at hj
  · rw [List.getElem?_drop] at hj
    have := h (k + j) v hj
    rwa [← Nat.add_assoc] at this
  · cases hj

theorem At.ofHeap {w : World} {b : Nat} {cs : Array Value} {t : TypeId} {fr : Nat × Nat} (h : w.heap[b]? = some (.cells cs t fr)) : At w b 0 cs.toList := by
  intro j v hj
  rw [Nat.zero_add, cell_of_row w b j cs t fr h]
  simpa using hj

theorem At.lt {w : World} {b o : Nat} {cs : List Value} (h : At w b o cs) (hp : 0 < cs.length) : b < w.heap.size := by
  have := h 0 (cs[0]) (by simp [hp])
  exact block_lt_of_cell this

theorem At.alloc {w : World} {b o : Nat} {cs : List Value} (h : At w b o cs) (x : Obj) (hb : b < w.heap.size) : At (w.alloc x) b o cs :=
  h.block (Below.heap_alloc w x b hb)

theorem At.drewN {w : World} {b o : Nat} {cs : List Value} (h : At w b o cs) (n : Nat) : At (w.drewN n) b o cs := h.block (by simp [World.drewN])

theorem At.setOther {w : World} {b o : Nat} {cs : List Value} (h : At w b o cs) (a : Addr) (v : Value) (hne : b ≠ a.block) : At (w.setCell a v) b o cs :=
  h.block (heap_setCell_other w a b v hne)

section
variable {P : Program}

theorem run_loadVar_at (w : World) (b o : Nat) (ty : TypeId) (cs : Array Value) (d : TypeDesc) (hc : At w b o cs.toList)
    (hu : P.underlying ty = some d) (hd : (match d with | .struct _ | .array _ _ => true | _ => false) = true) (hi : (P.info? ty).map (·.size) = some cs.size) :
    (loadVar ty ⟨b, o, none⟩).run P w = .ok (.agg cs) w := by
  have hl : (loadCells ⟨b, o, none⟩ cs.toList.length).run P w = .ok cs.toList.toArray w :=
    run_loadCells_list (P := P) w ⟨b, o, none⟩ cs.toList (fun j v hv => by rw [plainAdd]; exact hc j v hv)
  cases hq : P.info? ty with
  | none => simp [hq] at hi
  | some i =>
    have hs : i.size = cs.size := by simpa [hq] using hi
    have hagg : (isAgg ty).run P w = .ok true w := by
      unfold isAgg
      rw [Sem.run_bind, run_underlying hu w]
      cases d <;> simp_all
    simp only [Array.length_toList, Array.toArray_toList] at hl
    simp [loadVar, Sem.run_bind, hagg, sizeOf, typeInfo, hq, hs, hl]

theorem wpList_load_at {ops : Array Oper} {rest : List Oper} {o : Oper} {a : Act} {w : World} {Q : Exit → Act → World → Prop} (hgd : o.guard = none) (ty : TypeId) (x : Operand) (ho : o.op = .load ty x)
    (b off : Nat) (cs : Array Value) (hx : a.eval x = .pointer (some ⟨b, off, none⟩)) (d : TypeDesc)
    (hu : P.underlying ty = some d) (hd : (match d with | .struct _ | .array _ _ => true | _ => false) = true) (hi : (P.info? ty).map (·.size) = some cs.size) (hc : At w b off cs.toList)
    (h : wpList P ops Q rest (a.put o.dst (.agg cs)) w) : wpList P ops Q (o :: rest) a w := by
  refine wpList_plain hgd fun K hK => ?_
  unfold Oper.wp execOp
  simp only [ho, hx, Instr.loadAt, Instr.sureAddr, Sem.run_bind, Sem.run_pure, Result.andThen_ok, run_loadVar_at w b off ty cs d hc hu hd hi]
  exact hK _ _ h

/-- .. as one step of a quiet walk. -/
theorem wpQuiet_load_at {ops : Array Oper} {rest : List Oper} {o : Oper} {a : Act} {w : World} {Q : Act → Prop} (hw : Region.wanted o (yielded ops a.tmps) = true) (ty : TypeId) (x : Operand) (ho : o.op = .load ty x)
    (b off : Nat) (cs : Array Value) (hx : a.eval x = .pointer (some ⟨b, off, none⟩)) (d : TypeDesc)
    (hu : P.underlying ty = some d) (hd : (match d with | .struct _ | .array _ _ => true | _ => false) = true) (hi : (P.info? ty).map (·.size) = some cs.size) (hc : At w b off cs.toList)
    (h : wpQuiet P ops (fun w' => ∃ n, w' = w.drewN n) Q rest (a.put o.dst (.agg cs))) : wpQuiet P ops (fun w' => ∃ n, w' = w.drewN n) Q (o :: rest) a := by
  refine BigFrame.wpQuiet_want hw fun K hK => ⟨.agg cs, ?_, hK _ h⟩
  rintro w' ⟨n, rfl⟩
  unfold Oper.quietAt execOp
  simp only [ho, hx, Instr.loadAt, Instr.sureAddr, Sem.run_bind, Sem.run_pure, Result.andThen_ok, run_loadVar_at (w.drewN n) b off ty cs d (hc.drewN n) hu hd hi]
  exact ⟨rfl, rfl⟩

/-- An operation on two values whose run is known in every world, as one step of a quiet walk. -/
theorem wpQuiet_binOp {ops : Array Oper} {rest : List Oper} {o : Oper} {a : Act} {C : World → Prop} {Q : Act → Prop} (hw : Region.wanted o (yielded ops a.tmps) = true) (op : BinOp) (ty rt : TypeId) (x y : Operand) (ho : o.op = .binOp op ty x y rt)
    (u v r : Value) (hx : a.eval x = u) (hy : a.eval y = v) (hg : ∀ w : World, (eqGuard op ty x y u v).run P w = .ok () w) (hr : ∀ w : World, (binOp op ty u v).run P w = .ok r w)
    (h : wpQuiet P ops C Q rest (a.put o.dst r)) : wpQuiet P ops C Q (o :: rest) a := by
  refine BigFrame.wpQuiet_want hw fun K hK => ⟨r, ?_, hK _ h⟩
  intro w' _
  unfold Oper.quietAt execOp
  simp only [ho, hx, hy, Sem.run_bind, hg, Result.andThen_ok, hr, Sem.run_pure]
  exact ⟨rfl, rfl⟩

theorem wpList_binOp {ops : Array Oper} {rest : List Oper} {o : Oper} {a : Act} {w : World} {Q : Exit → Act → World → Prop} (hgd : o.guard = none) (op : BinOp) (ty rt : TypeId) (x y : Operand) (ho : o.op = .binOp op ty x y rt)
    (u v r : Value) (hx : a.eval x = u) (hy : a.eval y = v) (hg : ∀ w : World, (eqGuard op ty x y u v).run P w = .ok () w) (hr : ∀ w : World, (binOp op ty u v).run P w = .ok r w)
    (h : wpList P ops Q rest (a.put o.dst r) w) : wpList P ops Q (o :: rest) a w := by
  refine wpList_plain hgd fun K hK => ?_
  unfold Oper.wp execOp
  simp only [ho, hx, hy, Sem.run_bind, hg, Result.andThen_ok, hr, Sem.run_pure]
  exact hK _ _ h

/-- 'copy(dst, src)': n elements of 'size' cells, from wherever, over the whole row of block g. -/
theorem run_copy_sized (w : World) (dT sT ty elem : TypeId) (size : Nat) (g n dCap : Nat) (a : Addr) (sCap : Nat) (cur : Array Value) (t : TypeId) (cs : List Value)
    (hu : P.underlying dT = some (.slice elem)) (hs : (P.info? elem).map (·.size) = some size)
    (hg : w.heap[g]? = some (.cells cur t (0, 0))) (hn : cs.length = n * size)
    (hsrc : ∀ j v, cs[j]? = some v → w.cell? (a.add j) = some v) (hfit : cur.size = cs.length) (h1 : ∀ v ∈ cs, v.oneCell' = true) :
    (Builtin.copy_ #[dT, sT] ty #[.slice (some ⟨g, 0, none⟩) n dCap, .slice (some a) n sCap]).run P w = .ok (goInt n) (w.setRow g cs.toArray) := by
  have hl := run_loadCells_list (P := P) w a cs hsrc
  have hst := run_storeCells_from (P := P) g t cs 0 cur w hg (by omega) h1
  cases hq : P.info? elem with
  | none => simp [hq] at hs
  | some i =>
    have hi : i.size = size := by simpa [hq] using hs
    rw [hn] at hl
    simp at hst
    simp [Builtin.copy_, run_underlying hu, Builtin.lenOf, Builtin.firstCells, sizeOf, typeInfo, hq, hi, hl, hst]

theorem run_copy_zero (w : World) (dT sT ty elem : TypeId) (size : Nat) (d a : Option Addr) (dCap sCap : Nat) (hu : P.underlying dT = some (.slice elem)) (hs : (P.info? elem).map (·.size) = some size) :
    (Builtin.copy_ #[dT, sT] ty #[.slice d 0 dCap, .slice a 0 sCap]).run P w = .ok (goInt 0) w := by
  cases hq : P.info? elem with
  | none => simp [hq] at hs
  | some i =>
    have hl : ∀ (x : Addr), (loadCells x 0).run P w = .ok #[] w := fun x => by simpa using run_loadCells_list (P := P) w x [] (by simp)
    cases d <;> cases a <;> simp [Builtin.copy_, run_underlying hu, Builtin.lenOf, Builtin.firstCells, sizeOf, typeInfo, hq, storeCells, hl]

/-- '==' at a type of bools, integers and arrays and structs of such gives a bool that hangs on no world; of a value and itself: true. -/
theorem run_eql_key (t : TypeId) (m : Nat) (hm : P.keyTypeAt m t = true) (hmd : m ≤ 10000) (xs ys : Array Value) (lx ly : List Lit) (fx : (Value.agg xs).formed P t = true) (fy : (Value.agg ys).formed P t = true)
    (hx : P.keyLits m t xs.toList = some lx) (hy : P.keyLits m t ys.toList = some ly) : ∃ r : Bool, (∀ w : World, (binOp .eql t (.agg xs) (.agg ys)).run P w = .ok (.bool r) w) ∧ (lx = ly → r = true) := by
  have h := run_equalIn_deep (P := P) (10000 - m) m t hm
  rw [show 10000 - m + m = 10000 by omega] at h
  by_cases e : lx = ly
  · refine ⟨true, fun w => ?_, fun _ => rfl⟩
    obtain ⟨r, hr, hiff⟩ := h w m m (.agg xs) (.agg ys) lx ly fx fy hx hy
    rw [run_eql_struct, hr, hiff.2 e]
    rfl
  · refine ⟨false, fun w => ?_, fun h => absurd h e⟩
    obtain ⟨r, hr, hiff⟩ := h w m m (.agg xs) (.agg ys) lx ly fx fy hx hy
    rw [run_eql_struct, hr]
    cases r
    · rfl
    · exact absurd (hiff.1 rfl) e

theorem run_neq_same (t : TypeId) (m : Nat) (hm : P.keyTypeAt m t = true) (hmd : m ≤ 10000) (xs : Array Value) (lx : List Lit) (fx : (Value.agg xs).formed P t = true)
    (hx : P.keyLits m t xs.toList = some lx) (w : World) : (binOp .neq t (.agg xs) (.agg xs)).run P w = .ok (.bool false) w := by
  have h := run_equalIn_deep (P := P) (10000 - m) m t hm
  rw [show 10000 - m + m = 10000 by omega] at h
  obtain ⟨r, hr, hiff⟩ := h w m m (.agg xs) (.agg xs) lx lx fx fx hx hx
  rw [run_neq_struct, hr]
  have : r = true := hiff.2 rfl
  simp [this]
end
end Go.Proofs.Ybulkaisy.CKit
