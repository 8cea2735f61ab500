import Derived.Test.YbulkaisyCWalk4
namespace Go.Proofs.Ybulkaisy.CWalk
open Go.RowKit CKit
open Kit (wpList_build_to wpList_store_new)
set_option linter.unusedVariables false

set_option maxRecDepth 100000 in
set_option maxHeartbeats 4000000 in
theorem run7e_off (a0 : Option Addr) (cap : Nat) (c : Nat → List Value) (nm : List Value) (hit : Nat → Bool) (w : World) (G : Good 0 c nm hit) :
    Calls Yba.prog 7 #[.slice a0 0 cap, .agg nm.toArray, .bool false] w fun e w' => e = .returned (.bool true) ∧ Below w.heap.size w w' := by
  obtain ⟨Z, hZ, hmk0⟩ := make32 0 G.n1024
  have hmk : ∀ w : World, (Instr.makeSlice 32 (.int .i64 0) (.int .i64 0)).run Yba.prog w = .ok (.slice (some ⟨w.heap.size, 0, none⟩) 0 0) (w.alloc (.cells Z 36)) := hmk0
  have hcp := fun (w : World) (ty : TypeId) (d a : Option Addr) (dCap sCap : Nat) => run_copy_zero (P := Yba.prog) w 32 32 ty 36 22 d a dCap sCap Yba.underlying32 info36
  have HG : Hid (Good 0 c nm hit) := G
  have H2 : Hid ((Yba.prog.info? 26).map (·.size) = some nm.toArray.size) := by show _ = _; rw [info26]; simp [G.nm16]
  clear G hZ hmk0
  go_enter Yba.func7, Yba.ntmps7
  go_wp2_with (first
    | (refine wpList_build_to rfl 78 _ rfl _ _ (built78 (w.heap.size + 1) 0) rfl ?_)
    | (refine wpList_load_at rfl 26 _ rfl w.heap.size 0 nm.toArray rfl _ Yba.underlying26 rfl H2.out (name4 w nm _ _ _) ?_)
    | fail)
  obtain ⟨W3, hW3⟩ : ∃ W3, W3 = ((w.alloc (.cells nm.toArray 26)).alloc (.cells Z 36)).alloc (.cells #[.slice none 0 0] 38) := ⟨_, rfl⟩
  have hs3 : W3.heap.size = w.heap.size + 1 + 1 + 1 := by rw [hW3]; simp
  have hb3 : Below w.heap.size w W3 := by rw [hW3]; exact (((Below.refl _ _).alloc (Nat.le_refl _) _).alloc (by simp) _).alloc (by simp; omega) _
  have hk3 : W3.heap[w.heap.size + 1]? = some (.cells Z 36) := by
    rw [hW3, Below.heap_alloc _ _ _ (by simp)]; exact heap_alloc2_new w _ _
  have hl3 : W3.heap[w.heap.size + 1 + 1]? = some (.cells #[.slice none 0 0] 38) := by
    rw [hW3]; have := heap_alloc_new ((w.alloc (.cells nm.toArray 26)).alloc (.cells Z 36)) (.cells #[.slice none 0 0] 38); simpa using this
  have hA4 := name4 w nm (.cells Z 36) (.cells #[.slice none 0 0] 38) (.cells (nodeArr (w.heap.size + 1) 0 .nilFunc) 78)
  rw [← hW3]
  rw [← hW3] at hA4
  clear hW3
  have hN4 : NodeAt (W3.alloc (.cells (nodeArr (w.heap.size + 1) 0 .nilFunc) 78)) (w.heap.size + 1 + 1 + 1) (w.heap.size + 1) 0 .nilFunc := by
    have := node_at W3 (w.heap.size + 1) 0 .nilFunc (by omega) (fun o => frozen_of_row _ _ _ _ _ hk3)
    rwa [hs3] at this
  have hE4 : Elems (W3.alloc (.cells (nodeArr (w.heap.size + 1) 0 .nilFunc) 78)) (w.heap.size + 1) 0 0 c :=
    ⟨fun i hi => absurd hi (Nat.not_lt_zero _), fun i hi => absurd hi (Nat.not_lt_zero _)⟩
  have hb4 : Below w.heap.size w (W3.alloc (.cells (nodeArr (w.heap.size + 1) 0 .nilFunc) 78)) := hb3.alloc (by omega) _
  have hs4 : (W3.alloc (.cells (nodeArr (w.heap.size + 1) 0 .nilFunc) 78)).heap.size = w.heap.size + 1 + 1 + 1 + 1 := by simp [hs3]
  have hl4 : (W3.alloc (.cells (nodeArr (w.heap.size + 1) 0 .nilFunc) 78)).cell? ⟨w.heap.size + 1 + 1, 0, none⟩ = some (.slice none 0 0) := by
    rw [World.cell?_alloc_lt _ _ _ (by show w.heap.size + 1 + 1 < _; omega), cell_of_row _ _ _ _ _ _ hl3]; rfl
  have hf4 : (W3.alloc (.cells (nodeArr (w.heap.size + 1) 0 .nilFunc) 78)).frozen? ⟨w.heap.size + 1 + 1, 0, none⟩ = false :=
    (((Below.refl _ W3).alloc (Nat.le_refl _) _).frozen (by show w.heap.size + 1 + 1 < _; omega)).trans (frozen_of_row _ _ _ _ _ hl3)
  clear hb3 hk3 hl3 hs3
  generalize W3.alloc (.cells (nodeArr (w.heap.size + 1) 0 .nilFunc) 78) = W4 at *
  refine (conf_nil _ _ 0 c nm hit W4 HG.out.nm16 (by omega) hN4 hE4 HG.out.hits).mono ?_
  rintro e w7 ⟨rfl, hbut, h29, hE7⟩
  have HA : Hid (At w7 w.heap.size 0 nm) := hA4.block (hbut.block _ (by omega) (by omega))
  have HB : Hid (Below w.heap.size w w7) := ⟨hbut.os.trans hb4.os, hbut.tape.trans hb4.tape, hbut.output.trans hb4.output, by have := hbut.size; omega, fun k hk => (hbut.block k (by omega) (by omega)).trans (hb4.block k hk)⟩
  have hlog : w7.cell? ⟨w.heap.size + 1 + 1, 0, none⟩ = some (.slice none 0 0) := (hbut.cell (by show w.heap.size + 1 + 1 < _; omega) (by show ¬ (w.heap.size + 1 + 1 = _ ∨ w.heap.size + 1 + 1 = _); omega)).trans hl4
  have hs7 : w.heap.size + 1 + 1 + 1 < w7.heap.size := by have := hbut.size; omega
  clear hbut hE7 hA4 hb4 hN4 hE4 hl4 hf4 hs4 hmk hcp
  go_wp2
  go_loopw [10, 11] (fun fi i wr => i = .int .i64 0 ∧ fi = .int .i64 (-1) ∧ Below w7.heap.size w7 wr) (fun _ i _ => 0)
  case atStart => exact ⟨rfl, rfl, Below.refl _ _⟩
  case round =>
    obtain ⟨rfl, rfl, hbr⟩ := hrel
    have HBR : Hid (Below w7.heap.size w7 wr) := hbr
    clear hbr
    have h29x : wr.cell? ⟨w.heap.size + 1 + 1 + 1, 29, none⟩ = some (.slice (some ⟨w.heap.size + 1, 0, none⟩) 0 0) := (HBR.out.cell (by show _ + 1 + 1 + 1 < _; omega)).trans h29
    go_wp2
    go_loopw [12] (fun i wz => i = .int .i64 0 ∧ Below w7.heap.size w7 wz) (fun i _ => 0)
    case atStart => exact ⟨rfl, HBR.out⟩
    case round =>
      obtain ⟨rfl, hbz⟩ := hrel
      have HBZ : Hid (Below w7.heap.size w7 wr) := hbz
      have hsz : w7.heap.size ≤ wr.heap.size := hbz.size
      clear hbz
      have HLZ : Hid (wr.cell? ⟨w.heap.size + 1 + 1, 0, none⟩ = w7.cell? ⟨w.heap.size + 1 + 1, 0, none⟩) := HBZ.out.cell (by show _ + 1 + 1 < _; omega)
      have hlz : wr.cell? ⟨w.heap.size + 1 + 1, 0, none⟩ = some (.slice none 0 0) := HLZ.out.trans hlog
      go_wp2
      go_ret
      exact ⟨rfl, HB.out.trans (HBZ.out.mono (by omega))⟩


set_option maxRecDepth 100000 in
set_option maxHeartbeats 4000000 in
theorem run7e_on (a0 : Option Addr) (cap : Nat) (c : Nat → List Value) (nm : List Value) (hit : Nat → Bool) (w : World) (G : Good 0 c nm hit) :
    Calls Yba.prog 7 #[.slice a0 0 cap, .agg nm.toArray, .bool true] w fun e w' => e = .returned (.bool true) ∧ Below w.heap.size w w' := by
  obtain ⟨Z, hZ, hmk0⟩ := make32 0 G.n1024
  have hmk : ∀ w : World, (Instr.makeSlice 32 (.int .i64 0) (.int .i64 0)).run Yba.prog w = .ok (.slice (some ⟨w.heap.size, 0, none⟩) 0 0) (w.alloc (.cells Z 36)) := hmk0
  have hcp := fun (w : World) (ty : TypeId) (d a : Option Addr) (dCap sCap : Nat) => run_copy_zero (P := Yba.prog) w 32 32 ty 36 22 d a dCap sCap Yba.underlying32 info36
  have HG : Hid (Good 0 c nm hit) := G
  have H2 : Hid ((Yba.prog.info? 26).map (·.size) = some nm.toArray.size) := by show _ = _; rw [info26]; simp [G.nm16]
  clear G hZ hmk0
  go_enter Yba.func7, Yba.ntmps7
  go_wp2_with (first
    | (refine wpList_build_to rfl 78 _ rfl _ _ (built78 (w.heap.size + 1) 0) rfl ?_)
    | (refine wpList_store_cell_new rfl 73 _ _ rfl (w.heap.size + 1 + 1 + 1) (by simp) 31 (.func (.func 8) #[] #[.pointer (some ⟨w.heap.size + 1 + 1, 0, none⟩)]) rfl rfl 78 _ _ info73 rfl rfl (by show 31 < 36; omega) (node_set _ _ _) ?_)
    | (refine wpList_load_at rfl 26 _ rfl w.heap.size 0 nm.toArray rfl _ Yba.underlying26 rfl H2.out (name4 w nm _ _ _) ?_)
    | fail)
  obtain ⟨W3, hW3⟩ : ∃ W3, W3 = ((w.alloc (.cells nm.toArray 26)).alloc (.cells Z 36)).alloc (.cells #[.slice none 0 0] 38) := ⟨_, rfl⟩
  have hs3 : W3.heap.size = w.heap.size + 1 + 1 + 1 := by rw [hW3]; simp
  have hb3 : Below w.heap.size w W3 := by rw [hW3]; exact (((Below.refl _ _).alloc (Nat.le_refl _) _).alloc (by simp) _).alloc (by simp; omega) _
  have hk3 : W3.heap[w.heap.size + 1]? = some (.cells Z 36) := by
    rw [hW3, Below.heap_alloc _ _ _ (by simp)]; exact heap_alloc2_new w _ _
  have hl3 : W3.heap[w.heap.size + 1 + 1]? = some (.cells #[.slice none 0 0] 38) := by
    rw [hW3]; have := heap_alloc_new ((w.alloc (.cells nm.toArray 26)).alloc (.cells Z 36)) (.cells #[.slice none 0 0] 38); simpa using this
  have hA4 := name4 w nm (.cells Z 36) (.cells #[.slice none 0 0] 38) (.cells (nodeArr (w.heap.size + 1) 0 (.func (.func 8) #[] #[.pointer (some ⟨w.heap.size + 1 + 1, 0, none⟩)])) 78)
  rw [← hW3]
  rw [← hW3] at hA4
  clear hW3
  have hN4 : NodeAt (W3.alloc (.cells (nodeArr (w.heap.size + 1) 0 (.func (.func 8) #[] #[.pointer (some ⟨w.heap.size + 1 + 1, 0, none⟩)])) 78)) (w.heap.size + 1 + 1 + 1) (w.heap.size + 1) 0 (.func (.func 8) #[] #[.pointer (some ⟨w.heap.size + 1 + 1, 0, none⟩)]) := by
    have := node_at W3 (w.heap.size + 1) 0 (.func (.func 8) #[] #[.pointer (some ⟨w.heap.size + 1 + 1, 0, none⟩)]) (by omega) (fun o => frozen_of_row _ _ _ _ _ hk3)
    rwa [hs3] at this
  have hE4 : Elems (W3.alloc (.cells (nodeArr (w.heap.size + 1) 0 (.func (.func 8) #[] #[.pointer (some ⟨w.heap.size + 1 + 1, 0, none⟩)])) 78)) (w.heap.size + 1) 0 0 c :=
    ⟨fun i hi => absurd hi (Nat.not_lt_zero _), fun i hi => absurd hi (Nat.not_lt_zero _)⟩
  have hb4 : Below w.heap.size w (W3.alloc (.cells (nodeArr (w.heap.size + 1) 0 (.func (.func 8) #[] #[.pointer (some ⟨w.heap.size + 1 + 1, 0, none⟩)])) 78)) := hb3.alloc (by omega) _
  have hs4 : (W3.alloc (.cells (nodeArr (w.heap.size + 1) 0 (.func (.func 8) #[] #[.pointer (some ⟨w.heap.size + 1 + 1, 0, none⟩)])) 78)).heap.size = w.heap.size + 1 + 1 + 1 + 1 := by simp [hs3]
  have hl4 : (W3.alloc (.cells (nodeArr (w.heap.size + 1) 0 (.func (.func 8) #[] #[.pointer (some ⟨w.heap.size + 1 + 1, 0, none⟩)])) 78)).cell? ⟨w.heap.size + 1 + 1, 0, none⟩ = some (.slice none 0 0) := by
    rw [World.cell?_alloc_lt _ _ _ (by show w.heap.size + 1 + 1 < _; omega), cell_of_row _ _ _ _ _ _ hl3]; rfl
  have hf4 : (W3.alloc (.cells (nodeArr (w.heap.size + 1) 0 (.func (.func 8) #[] #[.pointer (some ⟨w.heap.size + 1 + 1, 0, none⟩)])) 78)).frozen? ⟨w.heap.size + 1 + 1, 0, none⟩ = false :=
    (((Below.refl _ W3).alloc (Nat.le_refl _) _).frozen (by show w.heap.size + 1 + 1 < _; omega)).trans (frozen_of_row _ _ _ _ _ hl3)
  clear hb3 hk3 hl3 hs3
  generalize W3.alloc (.cells (nodeArr (w.heap.size + 1) 0 (.func (.func 8) #[] #[.pointer (some ⟨w.heap.size + 1 + 1, 0, none⟩)])) 78) = W4 at *
  refine (conf_fn _ _ 0 c nm hit W4 HG.out.nm16 (by omega) (w.heap.size + 1 + 1) (by omega) (by omega) HG.out.nmOne hl4 hf4 hN4 hE4 HG.out.hits).mono ?_
  rintro e w7 ⟨rfl, hbut, h29, hE7, g, gcap, hg1, hg2⟩
  have HLog : Hid (w7.cell? ⟨w.heap.size + 1 + 1, 0, none⟩ = some (.slice (some ⟨g, 0, none⟩) 1 gcap) ∧ At w7 g 0 nm) := ⟨hg1, hg2⟩
  clear hg1 hg2
  have HA : Hid (At w7 w.heap.size 0 nm) := hA4.block (hbut.block _ (by omega) (by omega))
  have HB : Hid (Below w.heap.size w w7) := ⟨hbut.os.trans hb4.os, hbut.tape.trans hb4.tape, hbut.output.trans hb4.output, by have := hbut.size; omega, fun k hk => (hbut.block k (by omega) (by omega)).trans (hb4.block k hk)⟩
  have hs7 : w.heap.size + 1 + 1 + 1 < w7.heap.size := by have := hbut.size; omega
  clear hbut hE7 hA4 hb4 hN4 hE4 hl4 hf4 hs4 hmk hcp
  go_wp2
  go_loopw [10, 11] (fun fi i wr => i = .int .i64 0 ∧ fi = .int .i64 (-1) ∧ Below w7.heap.size w7 wr) (fun _ i _ => 0)
  case atStart => exact ⟨rfl, rfl, Below.refl _ _⟩
  case round =>
    obtain ⟨rfl, rfl, hbr⟩ := hrel
    have HBR : Hid (Below w7.heap.size w7 wr) := hbr
    clear hbr
    have h29x : wr.cell? ⟨w.heap.size + 1 + 1 + 1, 29, none⟩ = some (.slice (some ⟨w.heap.size + 1, 0, none⟩) 0 0) := (HBR.out.cell (by show _ + 1 + 1 + 1 < _; omega)).trans h29
    go_wp2
    go_loopw [12] (fun i wz => i = .int .i64 0 ∧ Below w7.heap.size w7 wz) (fun i _ => 0)
    case atStart => exact ⟨rfl, HBR.out⟩
    case round =>
      obtain ⟨rfl, hbz⟩ := hrel
      have HBZ : Hid (Below w7.heap.size w7 wr) := hbz
      have hsz : w7.heap.size ≤ wr.heap.size := hbz.size
      clear hbz
      have HLZ : Hid (wr.cell? ⟨w.heap.size + 1 + 1, 0, none⟩ = w7.cell? ⟨w.heap.size + 1 + 1, 0, none⟩) := HBZ.out.cell (by show _ + 1 + 1 < _; omega)
      have hlz : wr.cell? ⟨w.heap.size + 1 + 1, 0, none⟩ = some (.slice (some ⟨g, 0, none⟩) 1 gcap) := HLZ.out.trans HLog.out.1
      have HAg : Hid (At wr g 0 nm) := HLog.out.2.below HBZ.out (HLog.out.2.lt (by rw [HG.out.nm16]; omega))
      have HAr : Hid (At wr w.heap.size 0 nm) := HA.out.below HBZ.out (by omega)
      go_wp2
      refine wp_region_quiet_lit (by kernel_rfl) (by kernel_rfl) ?_
      repeat (first
        | (refine wpQuiet_load_at rfl 26 _ rfl g 0 nm.toArray rfl _ Yba.underlying26 rfl H2.out HAg.out ?_)
        | (refine wpQuiet_load_at rfl 26 _ rfl w.heap.size 0 nm.toArray rfl _ Yba.underlying26 rfl H2.out HAr.out ?_)
        | (refine wpQuiet_binOp rfl .eql 26 26 _ _ rfl _ _ (.bool true) rfl rfl (fun w => run_eqGuard_agg w _ _ _ _ _ _ guard26) HG.out.nmSelf ?_)
        | go_big_quiet_step (fail)
        | quiet_step (fail))
      refine wpQuiet_nil ?_
      intro _ hw'
      obtain ⟨nq2, hw''⟩ := hw'
      subst hw''
      go_wp2
      go_ret
      exact ⟨rfl, below_drewN (HB.out.trans (HBZ.out.mono (by omega))) _⟩

end Go.Proofs.Ybulkaisy.CWalk
