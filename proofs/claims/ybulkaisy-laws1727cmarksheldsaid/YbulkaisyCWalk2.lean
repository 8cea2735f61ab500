import Derived.Test.YbulkaisyCWalk
import Derived.Test.YbulkaisyLocks
import Derived.Test.YbulkaisyCKit2
import Derived.Laws.EntriesVeiled
namespace Go.Proofs.Ybulkaisy.CWalk
open Go.RowKit CKit
set_option linter.unusedVariables false


theorem inf26 : ∃ ie z, Yba.prog.info? 26 = some ie ∧ ie.zero = some z ∧ ie.size = 16 ∧ ie.bytes = 16 ∧ z.cells.size = 16 :=
  ⟨Yba.t26, .agg #[.int .u8 0, .int .u8 0, .int .u8 0, .int .u8 0, .int .u8 0, .int .u8 0, .int .u8 0, .int .u8 0, .int .u8 0, .int .u8 0, .int .u8 0, .int .u8 0, .int .u8 0, .int .u8 0, .int .u8 0, .int .u8 0], by kernel_rfl, by kernel_rfl, by kernel_rfl, by kernel_rfl, rfl⟩

theorem slice_of_owns {w : World} {base : Nat} {e : TypeId} {size : Nat} {v : Value} {nm : List Value} (h : w.ownsRow base e size v 1 nm) : ∃ g cap, v = .slice (some ⟨g, 0, none⟩) 1 cap ∧ base ≤ g ∧ g < w.heap.size ∧ At w g 0 nm := by
  rcases h.2 with ⟨_, h0⟩ | ⟨g, cap, cur, rfl, hb, hg, _, _, _, ht⟩
  · cases h0
  · refine ⟨g, cap, rfl, hb, (Array.getElem?_eq_some_iff.1 hg).1, ?_⟩
    have := (At.ofHeap hg).sub 0 (1 * size)
    simp only [List.drop_zero, Nat.add_zero] at this
    rwa [ht] at this

set_option maxRecDepth 100000 in
set_option maxHeartbeats 800000 in
/-- 'func(x Name) { log = append(log, x) }' at an empty log. -/
theorem clo8 (L : Nat) (nm : List Value) (w : World) (hn : nm.length = 16) (h1 : ∀ v ∈ nm, v.oneCell' = true) (hL : L < w.heap.size) (hc : w.cell? ⟨L, 0, none⟩ = some (.slice none 0 0)) (hf : w.frozen? ⟨L, 0, none⟩ = false) :
    Calls Yba.prog 8 #[.agg nm.toArray, .pointer (some ⟨L, 0, none⟩)] w fun e w' => e = .returned (.tuple #[]) ∧ w.grownBy w' (some L) ∧ ∃ g cap, w'.cell? ⟨L, 0, none⟩ = some (.slice (some ⟨g, 0, none⟩) 1 cap) ∧ At w' g 0 nm := by
  obtain ⟨ie, z, q1, q2, q3, q4, q5⟩ := inf26
  have Q1 : Hid (Yba.prog.info? 26 = some ie) := q1
  have Q2 : Hid (ie.zero = some z) := q2
  have Q3 : Hid (ie.size = 16) := q3
  have Q4 : Hid (ie.bytes = 16) := q4
  have Q5 : Hid (z.cells.size = 16) := q5
  have HN : Hid (nm.length = 16) := hn
  have HO : Hid (∀ v ∈ nm, v.oneCell' = true) := h1
  have H2 : Hid ((Yba.prog.info? 26).map (·.size) = some nm.toArray.size) := by show _ = _; rw [info26]; simp [hn]
  have HC : Hid (At (w.alloc (.cells nm.toArray 26)) w.heap.size 0 nm) := At.ofHeap (cs := nm.toArray) (heap_alloc_new w _)
  have HD : Hid (At ((w.alloc (.cells nm.toArray 26)).alloc (.cells nm.toArray 26)) (w.alloc (.cells nm.toArray 26)).heap.size 0 nm) := At.ofHeap (cs := nm.toArray) (heap_alloc_new _ _)
  clear hn q1 q2 q3 q4 q5 h1
  go_enter Yba.func8, Yba.ntmps8
  go_wp2_with (first
    | (refine wpList_load_at rfl 26 _ rfl w.heap.size 0 nm.toArray rfl _ Yba.underlying26 rfl H2.out HC.out ?_)
    | (refine wpList_build_one rfl 38 26 _ rfl nm rfl ie z Yba.underlying38 Q1.out Q2.out (by rw [Q3.out, HN.out]) (by rw [HN.out]; omega) (by rw [HN.out]; omega) ?_)
    | (at_builtin; refine wpList_append_own _ rfl _ _ 38 rfl (w.heap.size + 2) 26 ie z 16 16 Yba.underlying38 Q1.out Q2.out Q3.out Q4.out Q5.out (by decide) (.slice none 0 0) 0 [] rfl (World.ownsRow_nil _ _ _ _) ⟨(w.alloc (.cells nm.toArray 26)).heap.size, 0, none⟩ 1 1 nm rfl (by rw [HN.out]) (fun j u hj => by rw [plainAdd]; exact HD.out j u hj) HO.out (by decide) (by decide) (by simp) ?_)
    | fail)
  intro v' w1 ho hg _
  obtain ⟨g, cap, hv, hgb, hgl, hat⟩ := slice_of_owns ho
  rw [hv]
  have HA : Hid (At w1 g 0 nm) := hat
  have HG : Hid (((w.alloc (.cells nm.toArray 26)).alloc (.cells nm.toArray 26)).grownBy w1 none) := hg
  have hbk : w1.heap[L]? = w.heap[L]? := by
    rw [HG.out.block L (by simp; omega) (by simp), Below.heap_alloc _ _ _ (by simp; omega), Below.heap_alloc _ _ _ hL]
  have hc1 : w1.cell? ⟨L, 0, none⟩ = some (.slice none 0 0) := (World.cell?_of_block (w := w) hbk).trans hc
  have hf1 : w1.frozen? ⟨L, 0, none⟩ = false := (World.frozen?_of_block (w := w) hbk).trans hf
  clear ho hat hg hv hbk hc hf HO Q1 Q2 Q3 Q4 Q5
  go_wp2
  go_end0
  refine ⟨rfl, ?_, g, cap, World.cell?_setCell_same _ _ _ hc1, HA.out.setOther _ _ (by show g ≠ L; omega)⟩
  have hs := HG.out.size
  simp at hs
  refine ⟨HG.out.os, HG.out.tape, HG.out.output, by simp [World.setCell]; omega, fun k hk hne => ?_⟩
  rw [heap_setCell_other _ _ _ _ (by intro e; exact hne (by rw [e])), HG.out.block k (by simp; omega) (by simp), Below.heap_alloc _ _ _ (by simp; omega), Below.heap_alloc _ _ _ hk]
end Go.Proofs.Ybulkaisy.CWalk
