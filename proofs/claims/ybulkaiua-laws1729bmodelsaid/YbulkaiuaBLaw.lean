import Derived.Test.YbulkaiuaBWalk2
namespace Go.Proofs.Ybulkaiua.BWalk
open Go.RowKit Kit BPlain
set_option linter.unusedVariables false

theorem model10' (z : Nat → Nat) (hz : ∀ i, z i < 256) (w : World) :
    Calls Yba.prog 10 #[.agg (row z).toArray] w fun e w' => e = .returned (.agg (row (dbl z)).toArray) ∧ Below w.heap.size w w' := by
  rw [← row_congr (same z hz)]
  exact model10 z hz w

theorem row_one' (f : Nat → Nat) : (row f).toArray.toList.all (·.oneCell') = true := by simpa using row_one f

set_option maxRecDepth 100000 in
set_option maxHeartbeats 800000 in
theorem law5 (z : Nat → Nat) (hz : ∀ i, z i < 256) (w : World) :
    Calls Yba.prog 5 #[.agg (row z).toArray] w fun e w' => e = .returned (.bool true) ∧ Below w.heap.size w w' := by
  have HZ : Hid (∀ i, z i < 256) := hz
  clear hz
  go_enter Yba.func5, Yba.ntmps5
  go_wp2
  go_loopw [4] (fun i wr => ∃ k : Nat, k ≤ 16 ∧ i = .int .i64 k ∧ Below w.heap.size w wr ∧ Holds wr w.heap.size z ∧ Holds wr (w.heap.size + 1) (upTo z k)) (fun i _ => 16 - (intOf i).toNat)
  case atStart =>
    refine ⟨0, Nat.zero_le _, rfl, ((Below.refl _ _).alloc (Nat.le_refl _) _).alloc (by simp) _, ?_, ?_⟩
    · exact (Holds.new w z).block (Below.heap_alloc _ _ _ (by simp))
    · exact heap_alloc2_new w _ _
  case round =>
    obtain ⟨k, hk, rfl, hb, hs, hd⟩ := hrel
    have HB : Hid (Below w.heap.size w wr) := hb
    have HS : Hid (Holds wr w.heap.size z) := hs
    have HD : Hid (Holds wr (w.heap.size + 1) (upTo z k)) := hd
    clear hb hs hd
    by_cases hlt : k < 16
    · have hlt' : (k : Int) < 16 := by omega
      have c0 := HS.out.cell k (by omega)
      have c2 := HD.out.cell k (by omega)
      have f2 := HD.out.frozen k
      go_wp2
      go_roundw
      case rel =>
        refine ⟨k + 1, by omega, by go_num, HB.out.setCell (by simp) _, HS.out.other _ _ (by simp), ?_⟩
        refine (HD.out.set k (z k) (by omega)).congr fun i hi => ?_
        unfold upTo
        by_cases e : i = k
        · rw [if_pos e, if_pos (by omega), e]
        · rw [if_neg e]
          by_cases e2 : i < k
          · rw [if_pos e2, if_pos (by omega)]
          · rw [if_neg e2, if_neg (by omega)]
      case measure => simp [intOf]; omega
    · obtain rfl : k = 16 := by omega
      have HD' : Hid (Holds wr (w.heap.size + 1) z) := HD.out.congr fun i hi => by unfold upTo; rw [if_pos hi]
      have hs1 : w.heap.size + 1 < wr.heap.size := HD'.out.lt
      clear HD
      go_wp2_with (first
        | (refine wpList_load_row rfl 39 _ rfl (w.heap.size + 1) rfl 39 (row z).toArray (0, 0) _ HD'.out Yba.underlying39 rfl (info39r _) ?_)
        | fail)
      refine (double9 z HZ.out wr).mono ?_
      rintro e w1 ⟨rfl, hb1⟩
      have HB1 : Hid (Below w.heap.size w w1) := HB.out.trans (hb1.mono (by omega))
      have HS1 : Hid (Holds (w1.alloc (.cells (row (dbl z)).toArray 39)) w.heap.size z) := (HS.out.below hb1 (by omega)).block (Below.heap_alloc _ _ _ (by have := hb1.size; omega))
      have hs2 : w.heap.size + 1 < w1.heap.size := by have := hb1.size; omega
      clear hb1 HB HS HD'
      go_wp2_with (first
        | (refine wpList_store_new rfl 39 _ _ rfl (row (dbl z)).toArray rfl rfl 39 _ (info39r _) (by simp [row_len]) (row_one' _) ?_)
        | (refine wpList_load_row rfl 39 _ rfl w.heap.size rfl 39 (row z).toArray (0, 0) _ HS1.out Yba.underlying39 rfl (info39r _) ?_)
        | fail)
      refine (model10' z HZ.out _).mono ?_
      rintro e w2 ⟨rfl, hb2⟩
      have HX : Hid (Holds (w2.alloc (.cells (row (dbl z)).toArray 39)) w1.heap.size (dbl z)) := ((Holds.new w1 (dbl z)).below hb2 (by simp)).block (Below.heap_alloc _ _ _ (by have := hb2.size; simp at this; omega))
      have HB2 : Hid (Below w.heap.size w w2) := (HB1.out.alloc (by omega) _).trans (hb2.mono (by simp; omega))
      have hs3 : w1.heap.size < w2.heap.size := by have := hb2.size; simp at this; omega
      clear hb2 HB1 HS1
      go_wp2_with (first
        | (refine wpList_store_new rfl 39 _ _ rfl (row (dbl z)).toArray rfl rfl 39 _ (info39r _) (by simp [row_len]) (row_one' _) ?_)
        | fail)
      have HY : Hid (Holds (w2.alloc (.cells (row (dbl z)).toArray 39)) w2.heap.size (dbl z)) := Holds.new w2 (dbl z)
      go_loopw [7] (fun i wr => ∃ k : Nat, k ≤ 16 ∧ i = .int .i64 k ∧ Below w.heap.size w wr ∧ Holds wr w1.heap.size (dbl z) ∧ Holds wr w2.heap.size (dbl z)) (fun i _ => 16 - (intOf i).toNat)
      case atStart => exact ⟨0, Nat.zero_le _, rfl, HB2.out.alloc (by omega) _, HX.out, HY.out⟩
      case round =>
        obtain ⟨k, hk, rfl, hb, hx, hy⟩ := hrel
        have HBr : Hid (Below w.heap.size w wr) := hb
        have HXr : Hid (Holds wr w1.heap.size (dbl z)) := hx
        have HYr : Hid (Holds wr w2.heap.size (dbl z)) := hy
        clear hb hx hy
        by_cases hlt : k < 16
        · have hlt' : (k : Int) < 16 := by omega
          have c0 := HXr.out.cell k hlt
          have c1 := HYr.out.cell k hlt
          go_wp2
          go_quiet (fail)
          go_wp2
          go_roundw
          case rel => exact ⟨k + 1, by omega, by go_num, below_drewN HBr.out _, HXr.out.block (by simp [World.drewN]), HYr.out.block (by simp [World.drewN])⟩
          case measure => simp [intOf]; omega
        · go_wp2
          go_ret
          exact ⟨rfl, HBr.out⟩
end Go.Proofs.Ybulkaiua.BWalk
