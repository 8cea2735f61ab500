import Derived.Test.YbulkaisyCWalk3
import Derived.Test.YbulkaisyKit
namespace Go.Proofs.Ybulkaisy.CWalk
open Go.RowKit CKit
set_option linter.unusedVariables false

theorem wpList_copy_new {P : Program} {ops : Array Oper} {rest : List Oper} {o : Oper} {a : Act} {w : World} {Q : Exit → Act → World → Prop} (hgd : o.guard = none) (d s : Operand) (dT sT : TypeId)
    (ho : o.op = .call { callee := .builtin .copy, args := #[d, s], argTypes := #[dT, sT] }) (elem : TypeId) (size : Nat) (hu : P.underlying dT = some (.slice elem)) (hsz : (P.info? elem).map (·.size) = some size)
    (N : Nat) (hN : w.heap.size = N) (n dCap b off sCap : Nat) (hd : a.eval d = .slice (some ⟨N, 0, none⟩) n dCap) (hs : a.eval s = .slice (some ⟨b, off, none⟩) n sCap)
    (cur : Array Value) (t : TypeId) (cs : List Value) (hn : cs.length = n * size) (hat : At w b off cs) (hb : b < w.heap.size) (hfit : cur.size = cs.length) (h1 : ∀ v ∈ cs, v.oneCell' = true)
    (h : wpList P ops Q rest (a.put o.dst (goInt n)) (w.alloc (.cells cs.toArray t))) : wpList P ops Q (o :: rest) a (w.alloc (.cells cur t)) := by
  subst hN
  refine wpList_plain hgd fun K hK => ?_
  have hrun := run_copy_sized (P := P) (w.alloc (.cells cur t)) dT sT o.type elem size w.heap.size n dCap ⟨b, off, none⟩ sCap cur t cs hu hsz (heap_alloc_new _ _) hn (fun j v hj => by rw [plainAdd]; exact hat.alloc _ hb j v hj) hfit h1
  rw [Kit.setRow_alloc] at hrun
  unfold Oper.wp
  simp [execOp, ho, resolve, invoke, builtin, hd, hs, hrun, Result.andThen]
  exact hK _ _ h

/-- A value of one cell stored into the block that was laid last. -/
theorem wpList_store_cell_new {P : Program} {ops : Array Oper} {rest : List Oper} {o : Oper} {a : Act} {w : World} {Q : Exit → Act → World → Prop} (hgd : o.guard = none) (ty : TypeId) (x y : Operand) (ho : o.op = .store ty x y)
    (N : Nat) (hN : w.heap.size = N) (i : Nat) (v : Value) (hx : a.eval x = .pointer (some ⟨N, i, none⟩)) (hy : a.eval y = v) (t : TypeId) (cur cur' : Array Value) (hi : (P.info? ty).map (·.size) = some 1)
    (hv : v.cells = #[v]) (h1 : v.oneCell' = true) (hlt : i < cur.size) (hc : cur.setIfInBounds i v = cur')
    (h : wpList P ops Q rest (a.put o.dst undef) (w.alloc (.cells cur' t))) : wpList P ops Q (o :: rest) a (w.alloc (.cells cur t)) := by
  subst hN
  refine wpList_plain hgd fun K hK => ?_
  have hadd : (⟨w.heap.size, i, none⟩ : Addr).add 0 = ⟨w.heap.size, i, none⟩ := by rw [plainAdd]; rfl
  have hcell : (w.alloc (.cells cur t)).cell? ⟨w.heap.size, i, none⟩ = some cur[i] := by rw [cell_of_row _ _ _ _ _ _ (heap_alloc_new w _)]; simp [hlt]
  have hfro : (w.alloc (.cells cur t)).frozen? ⟨w.heap.size, i, none⟩ = false := frozen_of_row _ _ _ _ _ (heap_alloc_new w _)
  have hset : (w.alloc (.cells cur t)).setCell ⟨w.heap.size, i, none⟩ v = w.alloc (.cells cur' t) := by
    rw [setCell_eq_setRow _ _ _ _ _ _ _ (heap_alloc_new w _), hc, Kit.setRow_alloc]
  have hst : (store ((⟨w.heap.size, i, none⟩ : Addr).add 0) v).run P (w.alloc (.cells cur t)) = .ok () (w.alloc (.cells cur' t)) := by
    rw [hadd, run_store P _ _ v _ h1, hcell]
    simp [hfro, hset]
  cases hq : P.info? ty with
  | none => simp [hq] at hi
  | some ie =>
    have hs : ie.size = 1 := by simpa [hq] using hi
    have hrun : (storeVar ty ⟨w.heap.size, i, none⟩ v).run P (w.alloc (.cells cur t)) = .ok () (w.alloc (.cells cur' t)) := by
      simp [storeVar, sizeOf, typeInfo, hq, hv, hs, storeCells, hst]
    unfold Oper.wp execOp
    simp only [ho, hx, hy, Instr.storeAt, Instr.sureAddr, Sem.run_bind, Sem.run_pure, Result.andThen_ok, hrun]
    exact hK _ _ h

/-- The cells of a Node whose names are the n elements of block B, and whose function is fn; all else zero. -/
def nodeArr (B n : Nat) (fn : Value) : Array Value := #[.int .u8 0, .bool false, .nilFunc, .nilFunc, .nilFunc, .int .u64 0, .int .u64 0, .pointer none, .int .u16 0, .int .u64 0, .int .u64 0, .pointer none, .int .u16 0, .int .u64 0, .int .u64 0, .pointer none, .int .u16 0,
  .int .u32 0, .slice none 0 0, .pointer none, .pointer none, .int .u64 0, .int .u32 0, .int .u64 0, .int .u32 0, .nilIface, .nilFunc, .int .i32 0, .int .u32 0, .slice (some ⟨B, 0, none⟩) n n, .map none, fn, .pointer none, .int .u16 0, .slice none 0 0, .map none]

theorem built78 (B n : Nat) : Yba.prog.built 78 [(13, .slice (some ⟨B, 0, none⟩) n n)] = some (nodeArr B n .nilFunc) := by kernel_rfl

theorem node_set (B n : Nat) (fn : Value) : (nodeArr B n .nilFunc).setIfInBounds 31 fn = nodeArr B n fn := rfl

theorem node_at (w : World) (B n : Nat) (fn : Value) (hB : B < w.heap.size) (hf : ∀ o, w.frozen? ⟨B, o, none⟩ = false) : NodeAt (w.alloc (.cells (nodeArr B n fn) 78)) w.heap.size B n fn := by
  have hc : ∀ o, (w.alloc (.cells (nodeArr B n fn) 78)).cell? ⟨w.heap.size, o, none⟩ = (nodeArr B n fn)[o]? := fun o => cell_of_row _ _ _ _ _ _ (heap_alloc_new w _)
  exact ⟨hB, by simp, by rw [hc]; rfl, by rw [hc]; rfl, by rw [hc]; rfl, fun o => frozen_of_row _ _ _ _ _ (heap_alloc_new w _), fun o => (((Below.refl _ w).alloc (Nat.le_refl _) _).frozen hB).trans (hf o)⟩

theorem inf36 : ∃ ie z, Yba.prog.info? 36 = some ie ∧ ie.zero = some z ∧ ie.size = 22 ∧ ie.bytes = 22 :=
  ⟨Yba.t36, .agg #[.int .u8 0, .int .u8 0, .int .u8 0, .int .u8 0, .int .u8 0, .int .u8 0, .int .u8 0, .int .u8 0, .int .u8 0, .int .u8 0, .int .u8 0, .int .u8 0, .int .u8 0, .int .u8 0, .int .u8 0, .int .u8 0, .bool false, .int .u8 0, .bool false, .bool false, .bool false, .bool false], by kernel_rfl, by kernel_rfl, by kernel_rfl, by kernel_rfl⟩

theorem make32 (n : Nat) (hn : n ≤ 1024) : ∃ Z : Array Value, Z.size = n * 22 ∧ ∀ w : World, (Instr.makeSlice 32 (.int .i64 (n : Int)) (.int .i64 (n : Int))).run Yba.prog w = .ok (.slice (some ⟨w.heap.size, 0, none⟩) n n) (w.alloc (.cells Z 36)) := by
  obtain ⟨ie, z, h1, h2, h3, h4⟩ := inf36
  refine ⟨madeCells z.cells (n * 22), size_madeCells _ _, fun w => ?_⟩
  have := run_make (P := Yba.prog) w 32 36 ie z Yba.underlying32 h1 h2 .i64 .i64 (n : Int) (n : Int) (by omega) (by omega) (by rw [h4]; omega) (by omega)
  simpa [h3] using this

/-- All that the law leans on of the table and the name. -/
structure Good (n : Nat) (c : Nat → List Value) (nm : List Value) (hit : Nat → Bool) : Prop where
  n1024 : n ≤ 1024
  nm16 : nm.length = 16
  nmOne : ∀ v ∈ nm, v.oneCell' = true
  nmSelf : Eq26 nm nm true
  len : ∀ i, i < n → (c i).length = 22
  one : ∀ i, i < n → ∀ v ∈ c i, v.oneCell' = true
  hits : ∀ i, i < n → Eq26 ((c i).take 16) nm (hit i)
  same : ∀ i, i < n → ∀ (f : Int) (w : World), (binOp .neq 36 (.agg (marked f c i).toArray) (.agg (marked f c i).toArray)).run Yba.prog w = .ok (.bool false) w

theorem flat_len {n : Nat} {c : Nat → List Value} (h : ∀ i, i < n → (c i).length = 22) : ((List.range n).flatMap c).length = n * 22 := by
  induction n with
  | zero => simp
  | succ n ih => rw [List.range_succ, List.flatMap_append, List.length_append, ih (fun i hi => h i (by omega))]; simp [h n (by omega)]; omega

theorem flat_get {n : Nat} {c : Nat → List Value} (h : ∀ i, i < n → (c i).length = 22) : ∀ i, i < n → ∀ j, j < 22 → ((List.range n).flatMap c)[i * 22 + j]? = (c i)[j]? := by
  induction n with
  | zero => intro i hi; omega
  | succ n ih =>
    intro i hi j hj
    rw [List.range_succ, List.flatMap_append]
    have hl := flat_len (n := n) (c := c) (fun i hi => h i (by omega))
    by_cases e : i = n
    · subst e
      rw [List.getElem?_append_right (by omega), hl]
      simp
    · rw [List.getElem?_append_left (by omega)]
      exact ih (fun i hi => h i (by omega)) i (by omega) j hj

theorem flat_at {w : World} {b off n : Nat} {c : Nat → List Value} (h : Elems w b off n c) : At w b off ((List.range n).flatMap c) := by
  intro j v hj
  have hl := flat_len h.len
  have hjl : j < n * 22 := by have := (List.getElem?_eq_some_iff.1 hj).1; omega
  have hi : j / 22 < n := by omega
  have e : j = j / 22 * 22 + j % 22 := by omega
  rw [e, flat_get h.len _ hi _ (by omega)] at hj
  have := h.at_ (j / 22) hi (j % 22) v hj
  rwa [show off + j / 22 * 22 + j % 22 = off + j by omega] at this

theorem elems_of_heap {w : World} {b n : Nat} {c : Nat → List Value} {t : TypeId} {fr : Nat × Nat} (hl : ∀ i, i < n → (c i).length = 22) (h : w.heap[b]? = some (.cells ((List.range n).flatMap c).toArray t fr)) : Elems w b 0 n c := by
  refine ⟨hl, fun i hi j v hj => ?_⟩
  have hj22 : j < 22 := by have := (List.getElem?_eq_some_iff.1 hj).1; have := hl i hi; omega
  have := At.ofHeap h (i * 22 + j) v (by simpa using (flat_get hl i hi j hj22).trans hj)
  rwa [Nat.zero_add, ← Nat.add_zero (i * 22 + j), Nat.add_comm _ 0, ← Nat.add_assoc] at this

theorem info73 : (Yba.prog.info? 73).map (·.size) = some 1 := by kernel_rfl

theorem name4 (w : World) (nm : List Value) (B C D : Obj) : At ((((w.alloc (.cells nm.toArray 26)).alloc B).alloc C).alloc D) w.heap.size 0 nm :=
  (((At.ofHeap (cs := nm.toArray) (heap_alloc_new w _)).alloc _ (by simp)).alloc _ (by simp; omega)).alloc _ (by simp; omega)
end Go.Proofs.Ybulkaisy.CWalk
