/-
  A slice literal of one element of several cells, as a law for the walk.
-/
import Derived.Test.YbulkaisyCKit
import Derived.Great.BuildSlice
namespace Go.Proofs.Ybulkaisy.CKit
open Go Go.RowKit

theorem foldl_set : ∀ (l : List Value) (k : Nat) (z : Array Value), k + l.length ≤ z.size → ((l.zipIdx k).foldl (fun (cs : Array Value) (p : Value × Nat) => cs.setIfInBounds p.2 p.1) z).toList = z.toList.take k ++ l ++ z.toList.drop (k + l.length)
  | [], k, z, _ => by simp
  | v :: l, k, z, h => by
    have hk : k < z.size := by simp at h; omega
    rw [List.zipIdx_cons, List.foldl_cons, foldl_set l (k + 1) (z.setIfInBounds k v) (by simp at h ⊢; omega)]
    apply List.ext_getElem?
    intro i
    simp only [Array.toList_setIfInBounds, List.getElem?_append, List.length_append, List.length_take, List.length_set, Array.length_toList, List.length_cons]
    by_cases h1 : i < k
    · simp [h1, show i < k + 1 by omega, show min (k + 1) z.size = k + 1 by omega, show min k z.size = k by omega, show k ≠ i by omega, show i < k + 1 + l.length by omega, show i < k + (l.length + 1) by omega]
    · by_cases h2 : i = k
      · subst h2
        simp [show min (i + 1) z.size = i + 1 by omega, show min i z.size = i by omega, show i < i + 1 + l.length by omega]
      · by_cases h3 : i < k + 1 + l.length
        · simp [show min (k + 1) z.size = k + 1 by omega, show min k z.size = k by omega, h1, show ¬ i < k + 1 by omega, h3, show i < k + (l.length + 1) by omega, show i - k = (i - (k + 1)) + 1 by omega]
        · simp [show min (k + 1) z.size = k + 1 by omega, show min k z.size = k by omega, show ¬ i < k + 1 + l.length by omega, show ¬ i < k + (l.length + 1) by omega, show k ≠ k + 1 + l.length + (i - (k + 1 + l.length)) by omega, List.getElem?_drop]
          rw [show k + (l.length + 1) + (i - (k + (l.length + 1))) = k + 1 + l.length + (i - (k + 1 + l.length)) by omega]

section
variable {P : Program}
theorem wpList_build_one {ops : Array Oper} {rest : List Oper} {o : Oper} {a : Act} {w : World} {Q : Exit → Act → World → Prop} (hg : o.guard = none) (t e : TypeId) (x : Operand) (ho : o.op = .buildSlice t 1 #[(0, x)])
    (nm : List Value) (hx : a.eval x = .agg nm.toArray) (ie : TypeInfo) (z : Value)
    (hu : P.underlying t = some (.slice e)) (hie : P.info? e = some ie) (hz : ie.zero = some z) (hsz : ie.size = nm.length) (hpos : 0 < nm.length) (hsmall : nm.length ≤ 2 ^ 24)
    (h : wpList P ops Q rest (a.put o.dst (.slice (some ⟨w.heap.size, 0, none⟩) 1 1)) (w.alloc (.cells nm.toArray e))) : wpList P ops Q (o :: rest) a w := by
  refine wpList_buildSlice hg t e 1 _ ho nm.toArray ie z hu hie hz (by omega) (by omega) ?_ h
  simp only [List.map_toArray, List.map_cons, List.map_nil, hx]
  have hZ : ((Array.range (1 * ie.size)).map (z.cells[· % z.cells.size]!)).size = nm.length := by simp [hsz]
  generalize (Array.range (1 * ie.size)).map (z.cells[· % z.cells.size]!) = Z at hZ
  have key := foldl_set nm 0 Z (by omega)
  have e1 : (Value.agg nm.toArray).cells = nm.toArray := rfl
  unfold Instr.fill
  simp only [e1, hsz, Nat.zero_mul, Nat.zero_add]
  rw [if_neg (by simp [hZ])]
  unfold Instr.fill
  congr 1
  rw [← Array.toList_inj, ← Array.foldl_toList]
  simp only [Array.toList_zipIdx]
  refine key.trans ?_
  simp [← hZ]
end
end Go.Proofs.Ybulkaisy.CKit
