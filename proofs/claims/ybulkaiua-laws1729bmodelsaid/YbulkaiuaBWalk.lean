import Derived.Test.YbulkaiuaChecked
import Derived.Test.YbulkaiuaKit
import Derived.Test.YbulkaiuaBPlain
import Derived.WalkSpells
import Derived.WalkLawsBesides
import Derived.Outline
import Derived.BigRegion
import Derived.RegionTactic
import Derived.Laws.BitsAllLaws
import Derived.Laws.Bits64b
namespace Go.Proofs.Ybulkaiua.BWalk
open Go.RowKit Kit BPlain
set_option linter.unusedVariables false

/-- Sixteen bytes as cells. -/
def row (f : Nat → Nat) : List Value := (List.range 16).map fun i => Value.int .u8 (f i)
theorem row_len (f : Nat → Nat) : (row f).length = 16 := by simp [row]
theorem row_get (f : Nat → Nat) (i : Nat) (hi : i < 16) : (row f)[i]? = some (.int .u8 (f i)) := by simp [row, hi]
theorem row_congr {f g : Nat → Nat} (h : ∀ i, i < 16 → f i = g i) : row f = row g := by
  unfold row
  exact List.map_congr_left fun i hi => by rw [h i (by simpa using hi)]
theorem row_set (f : Nat → Nat) (k v : Nat) (hk : k < 16) : (row f).set k (.int .u8 v) = row (fun i => if i = k then v else f i) := by
  apply List.ext_getElem?
  intro i
  by_cases h : i < 16
  · rw [row_get _ i h]
    by_cases e : i = k
    · subst e
      rw [List.getElem?_set_self (by rw [row_len]; exact h)]
      simp
    · rw [List.getElem?_set_ne (fun e' => e e'.symm), row_get _ i h, if_neg e]
  · rw [List.getElem?_eq_none (by simp [row_len]; omega), List.getElem?_eq_none (by simp [row_len]; omega)]
theorem row_one (f : Nat → Nat) : (row f).toArray.all (·.oneCell') = true := by
  simp [row, Value.oneCell']

theorem info39 : (Yba.prog.info? 39).map (·.size) = some 16 := by kernel_rfl
theorem info39r (f : Nat → Nat) : (Yba.prog.info? 39).map (·.size) = some (row f).toArray.size := by rw [info39]; simp [row_len]

/-- Block b holds the sixteen bytes f. -/
def Holds (w : World) (b : Nat) (f : Nat → Nat) : Prop := w.heap[b]? = some (.cells (row f).toArray 39)

theorem Holds.cell {w : World} {b : Nat} {f : Nat → Nat} (h : Holds w b f) (i : Nat) (hi : i < 16) : w.cell? ⟨b, i, none⟩ = some (.int .u8 (f i)) := by
  rw [cell_of_row w b i _ _ _ h]
  simpa using row_get f i hi
theorem Holds.frozen {w : World} {b : Nat} {f : Nat → Nat} (h : Holds w b f) (i : Nat) : w.frozen? ⟨b, i, none⟩ = false := frozen_of_row w b i _ _ h
theorem Holds.block {w w' : World} {b : Nat} {f : Nat → Nat} (h : Holds w b f) (hb : w'.heap[b]? = w.heap[b]?) : Holds w' b f := hb.trans h
theorem Holds.below {w w' : World} {B b : Nat} {f : Nat → Nat} (h : Holds w b f) (hb : Below B w w') (hB : b < B) : Holds w' b f := h.block (hb.block b hB)
theorem Holds.set {w : World} {b : Nat} {f : Nat → Nat} (h : Holds w b f) (k v : Nat) (hk : k < 16) : Holds (w.setCell ⟨b, k, none⟩ (.int .u8 v)) b (fun i => if i = k then v else f i) := by
  unfold Holds
  rw [heap_setCell_same w b k _ _ _ h]
  simp [row_set f k v hk]
theorem Holds.other {w : World} {b : Nat} {f : Nat → Nat} (h : Holds w b f) (a : Addr) (v : Value) (hne : b ≠ a.block) : Holds (w.setCell a v) b f := h.block (heap_setCell_other w a b v hne)
theorem Holds.lt {w : World} {b : Nat} {f : Nat → Nat} (h : Holds w b f) : b < w.heap.size := (Array.getElem?_eq_some_iff.1 h).1
theorem Holds.congr {w : World} {b : Nat} {f g : Nat → Nat} (h : Holds w b f) (e : ∀ i, i < 16 → f i = g i) : Holds w b g := by unfold Holds; rw [← row_congr e]; exact h
theorem Holds.new (w : World) (f : Nat → Nat) : Holds (w.alloc (.cells (row f).toArray 39)) w.heap.size f := heap_alloc_new w _

/-- What 'double' has written after k rounds. -/
def upTo (g : Nat → Nat) (k i : Nat) : Nat := if i < k then g i else 0

theorem dbl_bits (z : Nat → Nat) (hz : ∀ i, z i < 256) (k : Nat) (hk : k < 15) : bits .or .u8 ((z k : Int) * 2 % 256) ((z (k + 1) : Int) / 128) = ((dbl z k : Nat) : Int) := by
  have h0 := hz k
  have h1 := hz (k + 1)
  have e0 : (z k : Int) * 2 % 256 = ((z k * 2 % 256 : Nat) : Int) := by omega
  have e1 : (z (k + 1) : Int) / 128 = ((z (k + 1) / 128 : Nat) : Int) := by omega
  rw [e0, e1, u8_or_nat _ _ (by omega) (by omega)]
  unfold dbl
  rw [if_pos hk]

theorem last_bits (z : Nat → Nat) (hz : ∀ i, z i < 256) : bits .xor .u8 ((z 15 : Int) * 2 % 256) (bits .and .u8 (-((z 0 : Int) / 128) % 256) 135) = ((dbl z 15 : Nat) : Int) := by
  have h0 := hz 0
  have h1 := hz 15
  have e0 : (z 15 : Int) * 2 % 256 = ((z 15 * 2 % 256 : Nat) : Int) := by omega
  unfold dbl
  rw [if_neg (by omega)]
  by_cases h : 128 ≤ z 0
  · have e1 : -((z 0 : Int) / 128) % 256 = ((255 : Nat) : Int) := by omega
    have e2 : bits .and .u8 ((255 : Nat) : Int) 135 = ((135 : Nat) : Int) := by decide
    rw [e0, e1, e2, u8_xor_nat _ _ (by omega) (by omega), if_pos h]
  · have e1 : -((z 0 : Int) / 128) % 256 = ((0 : Nat) : Int) := by omega
    have e2 : bits .and .u8 ((0 : Nat) : Int) 135 = ((0 : Nat) : Int) := by decide
    rw [e0, e1, e2, u8_xor_nat _ _ (by omega) (by omega), if_neg h]

theorem zero_row : row (upTo (fun _ => 0) 0) = [.int .u8 0, .int .u8 0, .int .u8 0, .int .u8 0, .int .u8 0, .int .u8 0, .int .u8 0, .int .u8 0, .int .u8 0, .int .u8 0, .int .u8 0, .int .u8 0, .int .u8 0, .int .u8 0, .int .u8 0, .int .u8 0] := rfl

set_option maxRecDepth 100000 in
set_option maxHeartbeats 800000 in
theorem double9 (z : Nat → Nat) (hz : ∀ i, z i < 256) (w : World) :
    Calls Yba.prog 9 #[.agg (row z).toArray] w fun e w' => e = .returned (.agg (row (dbl z)).toArray) ∧ Below w.heap.size w w' := by
  have HZ : Hid (∀ i, z i < 256) := hz
  clear hz
  go_enter Yba.func9, Yba.ntmps9
  go_wp2
  go_loopw [5] (fun i wr => ∃ k : Nat, k ≤ 15 ∧ i = .int .i64 k ∧ Below w.heap.size w wr ∧ Holds wr w.heap.size z ∧ Holds wr (w.heap.size + 1) (upTo (dbl z) k)) (fun i _ => 15 - (intOf i).toNat)
  case atStart =>
    refine ⟨0, Nat.zero_le _, rfl, ((Below.refl _ _).alloc (Nat.le_refl _) _).alloc (by simp) _, ?_, ?_⟩
    · exact (Holds.new w z).block (Below.heap_alloc _ _ _ (by simp))
    · exact heap_alloc2_new w _ _
  case round =>
    obtain ⟨k, hk, rfl, hb, hs, hd⟩ := hrel
    have HB : Hid (Below w.heap.size w wr) := hb
    have HS : Hid (Holds wr w.heap.size z) := hs
    have HD : Hid (Holds wr (w.heap.size + 1) (upTo (dbl z) k)) := hd
    clear hb hs hd
    by_cases hlt : k < 15
    · have hlt' : (k : Int) < 15 := by omega
      have c0 := HS.out.cell k (by omega)
      have c1 := HS.out.cell (k + 1) (by omega)
      have c2 := HD.out.cell k (by omega)
      have f2 := HD.out.frozen k
      have b0 : (z k : Int) < 256 := by have := HZ.out k; omega
      have b1 : (z (k + 1) : Int) < 256 := by have := HZ.out (k + 1); omega
      go_wp2
      go_region
      go_wp2
      go_roundw
      case rel =>
        refine ⟨k + 1, by omega, by go_num, (HB.out.setCell (by simp) _).drew, (HS.out.other _ _ (by simp)).block rfl, ?_⟩
        rw [dbl_bits z HZ.out k hlt]
        refine ((HD.out.set k (dbl z k) (by omega)).block rfl).congr fun i hi => ?_
        unfold upTo
        by_cases e : i = k
        · rw [if_pos e, if_pos (by omega), e]
        · rw [if_neg e]
          by_cases e2 : i < k
          · rw [if_pos e2, if_pos (by omega)]
          · rw [if_neg e2, if_neg (by omega)]
      case measure => simp [intOf]; omega
    · obtain rfl : k = 15 := by omega
      have c0 := HS.out.cell 0 (by omega)
      have c1 := HS.out.cell 15 (by omega)
      have c2 := HD.out.cell 15 (by omega)
      have f2 := HD.out.frozen 15
      have b0 : (z 0 : Int) < 256 := by have := HZ.out 0; omega
      have b1 : (z 15 : Int) < 256 := by have := HZ.out 15; omega
      have HL : Hid (Holds (wr.setCell ⟨w.heap.size + 1, 15, none⟩ (.int .u8 (bits .xor .u8 ((z 15 : Int) * 2 % 256) (bits .and .u8 (-((z 0 : Int) / 128) % 256) 135)))) (w.heap.size + 1) (dbl z)) := by
        show Holds _ _ _
        rw [last_bits z HZ.out]
        refine (HD.out.set 15 (dbl z 15) (by omega)).congr fun i hi => ?_
        unfold upTo
        by_cases e : i = 15
        · rw [if_pos e, e]
        · rw [if_neg e, if_pos (by omega)]
      go_wp2_with (first
        | (refine wpList_load_row rfl 39 _ rfl (w.heap.size + 1) rfl 39 (row (dbl z)).toArray (0, 0) _ HL.out Yba.underlying39 rfl (info39r _) ?_)
        | (refine wpList_store_row rfl 39 _ _ rfl (w.heap.size + 1) (row (dbl z)).toArray rfl rfl 39 (row (dbl z)).toArray HL.out (info39r _) rfl (row_one _) ?_)
        | fail)
      refine bodyPost_ret (v := .agg (row (dbl z)).toArray) (results_cell_row Yba.results9 _ _ (w.heap.size + 1) 39 _ (0, 0) _ rfl (setRow_heap _ _ _ _ _ _ HL.out) Yba.underlying39 rfl (info39r _)) rfl ⟨rfl, ?_⟩
      exact (HB.out.setCell (by simp) _).trans ⟨rfl, rfl, rfl, by simp, fun k hk => setRow_other _ _ _ _ (by omega)⟩
end Go.Proofs.Ybulkaiua.BWalk
