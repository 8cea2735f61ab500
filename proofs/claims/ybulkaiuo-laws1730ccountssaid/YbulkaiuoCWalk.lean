/-
  THE WALKS of 'zzs1730cvotes' (function 5), 'majority' (function 6) and 'LawS1730CCounts' (function 3).
-/
import Derived.Test.YbulkaiuoChecked
import Derived.WalkKit
import Derived.WalkSpells
import Derived.WalkLawsBesides
import Derived.Outline
import Derived.Below
import Derived.Laws.MakeOwn
import Derived.Laws.Rows
namespace Go.Proofs.Ybulkaiuo.CWalk
open Go.RowKit
set_option linter.unusedVariables false

/-- How many of the first k are 1. -/
def cnt (z : Nat → Int) : Nat → Nat
  | 0 => 0
  | k + 1 => cnt z k + (if z k = 1 then 1 else 0)
theorem cnt_le (z : Nat → Int) : ∀ k, cnt z k ≤ k
  | 0 => Nat.le_refl _
  | k + 1 => by have := cnt_le z k; unfold cnt; split <;> omega
theorem cnt_yes {z : Nat → Int} {k : Nat} (h : (z k == 1) = true) : cnt z (k + 1) = cnt z k + 1 := by
  rw [beq_iff_eq] at h; show cnt z k + _ = _; rw [if_pos h]
theorem cnt_no {z : Nat → Int} {k : Nat} (h : (z k == 1) = false) : cnt z (k + 1) = cnt z k := by
  rw [beq_eq_false_iff_ne] at h; show cnt z k + _ = _; rw [if_neg h]; rfl

/-- What majority gives. -/
def maj (z : Nat → Int) (n : Nat) : Int := if n < 2 * cnt z n then 1 else 0

theorem inf25 : ∃ ie v, Yba.prog.info? 25 = some ie ∧ ie.zero = some v ∧ ie.size = 1 ∧ ie.bytes = 1 :=
  ⟨Yba.t25, .int .u8 0, by kernel_rfl, by kernel_rfl, by kernel_rfl, by kernel_rfl⟩

theorem make23 (n : Nat) (hn : n ≤ 1024) : ∃ Z : Array Value, Z.size = n ∧ ∀ w : World, (Instr.makeSlice 23 (.int .i64 (n : Int)) (.int .i64 (n : Int))).run Yba.prog w = .ok (.slice (some ⟨w.heap.size, 0, none⟩) n n) (w.alloc (.cells Z 25)) := by
  obtain ⟨ie, v, h1, h2, h3, h4⟩ := inf25
  refine ⟨madeCells v.cells n, size_madeCells _ _, fun w => ?_⟩
  have := run_make (P := Yba.prog) w 23 25 ie v Yba.underlying23 h1 h2 .i64 .i64 (n : Int) (n : Int) (by omega) (by omega) (by rw [h4]; omega) (by omega)
  simpa [h3] using this

/-- n bytes from ⟨b, off⟩ on. -/
def Bytes (w : World) (b off n : Nat) (z : Nat → Int) : Prop := ∀ i, i < n → w.cell? ⟨b, off + i, none⟩ = some (.int .u8 (z i))
theorem Bytes.below {w w' : World} {B b off n : Nat} {z : Nat → Int} (h : Bytes w b off n z) (hb : Below B w w') (hB : b < B) : Bytes w' b off n z :=
  fun i hi => (hb.cell (p := ⟨b, off + i, none⟩) hB).trans (h i hi)

/-- The new row as far as it is filled. -/
def Filled (w : World) (g n k : Nat) (z : Nat → Int) : Prop := ∃ cur : Array Value, w.heap[g]? = some (.cells cur 25) ∧ cur.size = n ∧ ∀ i, i < k → cur[i]? = some (.int .u8 (z i))
theorem Filled.cell {w : World} {g n k : Nat} {z : Nat → Int} (h : Filled w g n k z) (i : Nat) (hi : i < n) : ∃ v, w.cell? ⟨g, i, none⟩ = some v := by
  obtain ⟨cur, hg, hs, _⟩ := h
  exact ⟨cur[i]'(by omega), by rw [cell_of_row w g i _ _ _ hg]; simp [hs, hi]⟩
theorem Filled.frozen {w : World} {g n k : Nat} {z : Nat → Int} (h : Filled w g n k z) (i : Nat) : w.frozen? ⟨g, i, none⟩ = false := by
  obtain ⟨cur, hg, _, _⟩ := h
  exact frozen_of_row w g i _ _ hg
theorem Filled.put {w : World} {g n k : Nat} {z : Nat → Int} (h : Filled w g n k z) (hk : k < n) : Filled (w.setCell ⟨g, k, none⟩ (.int .u8 (z k))) g n (k + 1) z := by
  obtain ⟨cur, hg, hs, hc⟩ := h
  refine ⟨_, heap_setCell_same w g k _ _ _ hg, by simp [hs], fun i hi => ?_⟩
  by_cases e : i = k
  · subst e
    rw [Array.getElem?_setIfInBounds_self_of_lt (by omega)]
  · rw [Array.getElem?_setIfInBounds_ne (by omega)]
    exact hc i (by omega)
theorem Filled.bytes {w : World} {g n : Nat} {z : Nat → Int} (h : Filled w g n n z) : Bytes w g 0 n z := by
  obtain ⟨cur, hg, _, hc⟩ := h
  intro i hi
  rw [Nat.zero_add, cell_of_row w g i _ _ _ hg]
  exact hc i hi
theorem Filled.lt {w : World} {g n k : Nat} {z : Nat → Int} (h : Filled w g n k z) : g < w.heap.size := by
  obtain ⟨cur, hg, _, _⟩ := h
  exact (Array.getElem?_eq_some_iff.1 hg).1

set_option maxRecDepth 100000 in
set_option maxHeartbeats 400000 in
theorem votes5 (b off n cap : Nat) (z : Nat → Int) (w : World) (hn : n ≤ 1024) (hB : b < w.heap.size) (hz : Bytes w b off n z) :
    Calls Yba.prog 5 #[.slice (some ⟨b, off, none⟩) n cap] w fun e w' => e = .returned (.slice (some ⟨w.heap.size, 0, none⟩) n n) ∧ Below w.heap.size w w' ∧ Filled w' w.heap.size n n z := by
  obtain ⟨Z, hZ, hmk⟩ := make23 n hn
  have HZ : Hid (Z.size = n) := hZ
  have HY : Hid (Bytes w b off n z) := hz
  clear hZ hz
  go_enter Yba.func5, Yba.ntmps5
  go_wp2
  go_loopw [11] (fun i wr => ∃ k : Nat, k ≤ n ∧ i = .int .i64 k ∧ Below w.heap.size w wr ∧ Filled wr w.heap.size n k z) (fun i _ => n - (intOf i).toNat)
  case atStart => exact ⟨0, Nat.zero_le _, rfl, (Below.refl _ _).alloc (Nat.le_refl _) _, Z, heap_alloc_new w _, HZ.out, fun i hi => absurd hi (Nat.not_lt_zero _)⟩
  case round =>
    obtain ⟨k, hk, rfl, hb, hf⟩ := hrel
    have HB : Hid (Below w.heap.size w wr) := hb
    have HF : Hid (Filled wr w.heap.size n k z) := hf
    clear hb hf
    by_cases hlt : k < n
    · have hlt' : (k : Int) < (n : Int) := by omega
      have c0 : wr.cell? ⟨b, off + k, none⟩ = some (.int .u8 (z k)) := (HB.out.cell (p := ⟨b, off + k, none⟩) hB).trans (HY.out k hlt)
      obtain ⟨v, c1⟩ := HF.out.cell k hlt
      have f1 := HF.out.frozen k
      go_wp2
      go_roundw
      case rel => exact ⟨k + 1, by omega, by go_num, HB.out.setCell (by simp) _, HF.out.put hlt⟩
      case measure => simp [intOf]; omega
    · obtain rfl : k = n := by omega
      go_wp2
      go_ret
      exact ⟨rfl, HB.out, HF.out⟩

set_option maxRecDepth 100000 in
set_option maxHeartbeats 400000 in
theorem maj6 (g n : Nat) (z : Nat → Int) (w : World) (hn : n ≤ 1024) (hz : Bytes w g 0 n z) :
    Calls Yba.prog 6 #[.slice (some ⟨g, 0, none⟩) n n] w fun e w' => e = .returned (.int .u8 (maj z n)) ∧ w' = w := by
  have HY : Hid (Bytes w g 0 n z) := hz
  clear hz
  go_enter Yba.func6, Yba.ntmps6
  go_wp2
  go_loop [3, 8] (fun c i => ∃ k : Nat, k ≤ n ∧ i = .int .i64 k ∧ c = .int .i64 (cnt z k)) (fun _ i => n - (intOf i).toNat)
  case atStart => exact ⟨0, Nat.zero_le _, rfl, rfl⟩
  case round =>
    obtain ⟨k, hk, rfl, rfl⟩ := hrel
    have hc := cnt_le z k
    by_cases hlt : k < n
    · have hlt' : (k : Int) < (n : Int) := by omega
      have c0 : w.cell? ⟨g, k, none⟩ = some (.int .u8 (z k)) := by have := HY.out k hlt; rwa [Nat.zero_add] at this
      cases hq : (z k == 1)
      · have HQ : Hid (cnt z (k + 1) = cnt z k) := cnt_no hq
        go_wp2
        go_round
        case rel => exact ⟨k + 1, by omega, by go_num, by rw [HQ.out]⟩
        case measure => simp [intOf]; omega
      · have HQ : Hid (cnt z (k + 1) = cnt z k + 1) := cnt_yes hq
        go_wp2
        go_round
        case rel => exact ⟨k + 1, by omega, by go_num, by rw [HQ.out]; go_num⟩
        case measure => simp [intOf]; omega
    · obtain rfl : k = n := by omega
      by_cases hm : k < 2 * cnt z k
      · have HM : Hid (maj z k = 1) := by show maj z k = 1; unfold maj; rw [if_pos hm]
        have hm' : (k : Int) < 2 * (cnt z k : Int) := by omega
        go_wp2
        go_ret
        exact ⟨by rw [HM.out]; rfl, rfl⟩
      · have HM : Hid (maj z k = 0) := by show maj z k = 0; unfold maj; rw [if_neg hm]
        have hm' : ¬ (k : Int) < 2 * (cnt z k : Int) := by omega
        go_wp2
        go_ret
        exact ⟨by rw [HM.out]; rfl, rfl⟩

set_option maxRecDepth 100000 in
set_option maxHeartbeats 400000 in
theorem law3_big (a : Option Addr) (n cap : Nat) (w : World) (hbig : 1024 < n) :
    Calls Yba.prog 3 #[.slice a n cap] w fun e w' => e = .returned (.bool true) ∧ Below w.heap.size w w' := by
  have hl : (1024 : Int) < (n : Int) := by omega
  go_enter Yba.func3, Yba.ntmps3
  go_wp2
  go_ret
  exact ⟨rfl, Below.refl _ _⟩

set_option maxRecDepth 100000 in
set_option maxHeartbeats 800000 in
theorem law3_some (b off n cap : Nat) (z : Nat → Int) (w : World) (hn : n ≤ 1024) (hB : b < w.heap.size) (hz : Bytes w b off n z) :
    Calls Yba.prog 3 #[.slice (some ⟨b, off, none⟩) n cap] w fun e w' => e = .returned (.bool true) ∧ Below w.heap.size w w' := by
  have hl : ¬ (1024 : Int) < (n : Int) := by omega
  have HY : Hid (Bytes w b off n z) := hz
  clear hz
  go_enter Yba.func3, Yba.ntmps3
  go_wp2_with fail
  refine (votes5 b off n cap z w hn hB HY.out).mono ?_
  rintro e w1 ⟨rfl, hb1, hf1⟩
  have HB1 : Hid (Below w.heap.size w w1) := hb1
  have HV : Hid (Bytes w1 w.heap.size 0 n z) := hf1.bytes
  have HZ : Hid (Bytes w1 b off n z) := HY.out.below hb1 hB
  clear hb1 hf1 HY
  go_wp2
  go_loop [4, 5, 16] (fun c o i => ∃ k : Nat, k ≤ n ∧ i = .int .i64 k ∧ c = .int .i64 (cnt z k) ∧ o = .int .i64 ((k - cnt z k : Nat) : Int)) (fun _ _ i => n - (intOf i).toNat)
  case atStart => exact ⟨0, Nat.zero_le _, rfl, rfl, rfl⟩
  case round =>
    obtain ⟨k, hk, rfl, rfl, rfl⟩ := hrel
    have hc := cnt_le z k
    obtain ⟨o, ho⟩ : ∃ o, o = k - cnt z k := ⟨_, rfl⟩
    have HO : Hid (o = k - cnt z k) := ho
    have hol : o ≤ k := by omega
    rw [← ho]
    clear ho
    by_cases hlt : k < n
    · have hlt' : (k : Int) < (n : Int) := by omega
      have c0 : w1.cell? ⟨b, off + k, none⟩ = some (.int .u8 (z k)) := HZ.out k hlt
      cases hq : (z k == 1)
      · have HQ : Hid (cnt z (k + 1) = cnt z k) := cnt_no hq
        go_wp2
        go_round
        case rel => exact ⟨k + 1, by omega, by go_num, by rw [HQ.out], by rw [HQ.out, show k + 1 - cnt z k = o + 1 by have := HO.out; omega]; go_num⟩
        case measure => simp [intOf]; omega
      · have HQ : Hid (cnt z (k + 1) = cnt z k + 1) := cnt_yes hq
        go_wp2
        go_round
        case rel => exact ⟨k + 1, by omega, by go_num, by rw [HQ.out]; go_num, by rw [HQ.out, show k + 1 - (cnt z k + 1) = o by have := HO.out; omega]⟩
        case measure => simp [intOf]; omega
    · obtain rfl : k = n := by omega
      by_cases hm : k < 2 * cnt z k
      · have HM : Hid (maj z k = 1) := by show maj z k = 1; unfold maj; rw [if_pos hm]
        have hm' : (o : Int) < (cnt z k : Int) := by have := HO.out; omega
        go_wp2_with (first
          | (go_at_call 6; refine (maj6 w.heap.size k z w1 hn HV.out).mono ?_; rintro e w2 ⟨rfl, rfl⟩; rw [HM.out])
          | fail)
        go_ret
        exact ⟨rfl, HB1.out⟩
      · have HM : Hid (maj z k = 0) := by show maj z k = 0; unfold maj; rw [if_neg hm]
        have hm' : ¬ (o : Int) < (cnt z k : Int) := by have := HO.out; omega
        go_wp2_with (first
          | (go_at_call 6; refine (maj6 w.heap.size k z w1 hn HV.out).mono ?_; rintro e w2 ⟨rfl, rfl⟩; rw [HM.out])
          | fail)
        go_ret
        exact ⟨rfl, HB1.out⟩

set_option maxRecDepth 100000 in
set_option maxHeartbeats 400000 in
theorem votes5_empty (a : Option Addr) (cap : Nat) (w : World) :
    Calls Yba.prog 5 #[.slice a 0 cap] w fun e w' => e = .returned (.slice (some ⟨w.heap.size, 0, none⟩) 0 0) ∧ Below w.heap.size w w' := by
  obtain ⟨Z, hZ, hmk0⟩ := make23 0 (by omega)
  have hmk : ∀ w : World, (Instr.makeSlice 23 (.int .i64 0) (.int .i64 0)).run Yba.prog w = .ok (.slice (some ⟨w.heap.size, 0, none⟩) 0 0) (w.alloc (.cells Z 25)) := hmk0
  clear hZ hmk0
  go_enter Yba.func5, Yba.ntmps5
  go_wp2
  go_loopw [11] (fun i wr => i = .int .i64 0 ∧ Below w.heap.size w wr) (fun i _ => 0)
  case atStart => exact ⟨rfl, (Below.refl _ _).alloc (Nat.le_refl _) _⟩
  case round =>
    obtain ⟨rfl, hb⟩ := hrel
    go_wp2
    go_ret
    exact ⟨rfl, hb⟩

set_option maxRecDepth 100000 in
set_option maxHeartbeats 400000 in
theorem law3_empty (a : Option Addr) (cap : Nat) (w : World) :
    Calls Yba.prog 3 #[.slice a 0 cap] w fun e w' => e = .returned (.bool true) ∧ Below w.heap.size w w' := by
  go_enter Yba.func3, Yba.ntmps3
  go_wp2_with fail
  refine (votes5_empty a cap w).mono ?_
  rintro e w1 ⟨rfl, hb1⟩
  have HB1 : Hid (Below w.heap.size w w1) := hb1
  clear hb1
  go_wp2
  go_loop [4, 5, 16] (fun c o i => i = .int .i64 0 ∧ c = .int .i64 0 ∧ o = .int .i64 0) (fun _ _ i => 0)
  case atStart => exact ⟨rfl, rfl, rfl⟩
  case round =>
    obtain ⟨rfl, rfl, rfl⟩ := hrel
    have HM : Hid (maj (fun _ => 0) 0 = 0) := rfl
    go_wp2_with (first
      | (go_at_call 6; refine (maj6 w.heap.size 0 (fun _ => 0) w1 (by omega) (fun i hi => absurd hi (Nat.not_lt_zero _))).mono ?_; rintro e w2 ⟨rfl, rfl⟩; rw [HM.out])
      | fail)
    go_ret
    exact ⟨rfl, HB1.out⟩
end Go.Proofs.Ybulkaiuo.CWalk
