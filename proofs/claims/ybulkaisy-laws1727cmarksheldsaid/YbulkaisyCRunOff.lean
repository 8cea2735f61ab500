import Derived.Test.YbulkaisyCWalk4
namespace Go.Proofs.Ybulkaisy.CWalk
open Go.RowKit CKit
open Kit (wpList_build_to wpList_store_new)
set_option linter.unusedVariables false

set_option maxRecDepth 100000 in
set_option maxHeartbeats 4000000 in
theorem run7_off (b off n cap : Nat) (c : Nat → List Value) (nm : List Value) (hit : Nat → Bool) (w : World) (hb : b < w.heap.size) (G : Good n c nm hit) (he : Elems w b off n c) :
    Calls Yba.prog 7 #[.slice (some ⟨b, off, none⟩) n cap, .agg nm.toArray, .bool false] w fun e w' => e = .returned (.bool true) ∧ Below w.heap.size w w' := by
  obtain ⟨Z, hZ, hmk⟩ := make32 n G.n1024
  have HE : Hid (Elems w b off n c) := he
  have HG : Hid (Good n c nm hit) := G
  have HZ : Hid (Z.size = n * 22) := hZ
  obtain ⟨cs, hcs⟩ : ∃ cs, cs = (List.range n).flatMap c := ⟨_, rfl⟩
  have HS : Hid (cs = (List.range n).flatMap c) := hcs
  have HL : Hid (cs.length = n * 22) := by show _ = _; rw [hcs]; exact flat_len G.len
  have HT : Hid (At (w.alloc (.cells nm.toArray 26)) b off cs) := by show At _ _ _ _; rw [hcs]; exact (flat_at he).alloc _ hb
  have HO : Hid (∀ v ∈ cs, v.oneCell' = true) := by
    show ∀ v ∈ cs, _
    intro v hv
    rw [hcs, List.mem_flatMap] at hv
    obtain ⟨i, hi, hv⟩ := hv
    exact G.one i (by simpa using hi) v hv
  have H2 : Hid ((Yba.prog.info? 26).map (·.size) = some nm.toArray.size) := by show _ = _; rw [info26]; simp [G.nm16]
  have hn1 : n ≤ 1024 := G.n1024
  clear he G hZ hcs
  go_enter Yba.func7, Yba.ntmps7
  go_wp2_with (first
    | (refine wpList_copy_new (w := w.alloc (.cells nm.toArray 26)) rfl _ _ 32 32 rfl 36 22 Yba.underlying32 info36 (w.heap.size + 1) (by simp) n n b off cap rfl rfl Z 36 cs HL.out HT.out (by simp; omega) (HZ.out.trans HL.out.symm) HO.out ?_)
    | (refine wpList_build_to rfl 78 _ rfl _ _ (built78 (w.heap.size + 1) n) rfl ?_)
    | (refine wpList_load_at rfl 26 _ rfl w.heap.size 0 nm.toArray rfl _ Yba.underlying26 rfl H2.out (name4 w nm _ _ _) ?_)
    | fail)
  obtain ⟨W3, hW3⟩ : ∃ W3, W3 = ((w.alloc (.cells nm.toArray 26)).alloc (.cells cs.toArray 36)).alloc (.cells #[.slice none 0 0] 38) := ⟨_, rfl⟩
  have hs3 : W3.heap.size = w.heap.size + 1 + 1 + 1 := by rw [hW3]; simp
  have hb3 : Below w.heap.size w W3 := by rw [hW3]; exact (((Below.refl _ _).alloc (Nat.le_refl _) _).alloc (by simp) _).alloc (by simp; omega) _
  have hk3 : W3.heap[w.heap.size + 1]? = some (.cells cs.toArray 36) := by
    rw [hW3, Below.heap_alloc _ _ _ (by simp)]; exact heap_alloc2_new w _ _
  have hl3 : W3.heap[w.heap.size + 1 + 1]? = some (.cells #[.slice none 0 0] 38) := by
    rw [hW3]; have := heap_alloc_new ((w.alloc (.cells nm.toArray 26)).alloc (.cells cs.toArray 36)) (.cells #[.slice none 0 0] 38); simpa using this
  have hA4 := name4 w nm (.cells cs.toArray 36) (.cells #[.slice none 0 0] 38) (.cells (nodeArr (w.heap.size + 1) n .nilFunc) 78)
  rw [← hW3]
  rw [← hW3] at hA4
  clear hW3
  have hN4 : NodeAt (W3.alloc (.cells (nodeArr (w.heap.size + 1) n .nilFunc) 78)) (w.heap.size + 1 + 1 + 1) (w.heap.size + 1) n .nilFunc := by
    have := node_at W3 (w.heap.size + 1) n .nilFunc (by omega) (fun o => frozen_of_row _ _ _ _ _ hk3)
    rwa [hs3] at this
  have hE4 : Elems (W3.alloc (.cells (nodeArr (w.heap.size + 1) n .nilFunc) 78)) (w.heap.size + 1) 0 n c :=
    elems_of_heap HG.out.len (by rw [Below.heap_alloc _ _ _ (by omega), hk3, HS.out])
  have hb4 : Below w.heap.size w (W3.alloc (.cells (nodeArr (w.heap.size + 1) n .nilFunc) 78)) := hb3.alloc (by omega) _
  have hs4 : (W3.alloc (.cells (nodeArr (w.heap.size + 1) n .nilFunc) 78)).heap.size = w.heap.size + 1 + 1 + 1 + 1 := by simp [hs3]
  have hl4 : (W3.alloc (.cells (nodeArr (w.heap.size + 1) n .nilFunc) 78)).cell? ⟨w.heap.size + 1 + 1, 0, none⟩ = some (.slice none 0 0) := by
    rw [World.cell?_alloc_lt _ _ _ (by show w.heap.size + 1 + 1 < _; omega), cell_of_row _ _ _ _ _ _ hl3]; rfl
  have hf4 : (W3.alloc (.cells (nodeArr (w.heap.size + 1) n .nilFunc) 78)).frozen? ⟨w.heap.size + 1 + 1, 0, none⟩ = false :=
    (((Below.refl _ W3).alloc (Nat.le_refl _) _).frozen (by show w.heap.size + 1 + 1 < _; omega)).trans (frozen_of_row _ _ _ _ _ hl3)
  clear hb3 hk3 hl3 hs3
  generalize W3.alloc (.cells (nodeArr (w.heap.size + 1) n .nilFunc) 78) = W4 at *
  refine (conf_nil _ _ n c nm hit W4 HG.out.nm16 hn1 hN4 hE4 HG.out.hits).mono ?_
  rintro e w7 ⟨rfl, hbut, h29, hE7⟩
  have HA : Hid (At w7 w.heap.size 0 nm) := hA4.block (hbut.block _ (by omega) (by omega))
  have HB : Hid (Below w.heap.size w w7) := ⟨hbut.os.trans hb4.os, hbut.tape.trans hb4.tape, hbut.output.trans hb4.output, by have := hbut.size; omega, fun k hk => (hbut.block k (by omega) (by omega)).trans (hb4.block k hk)⟩
  have HE1 : Hid (Elems w7 b off n c) := HE.out.below HB.out hb
  have HE7 : Hid (Elems w7 (w.heap.size + 1) 0 n (marked (firstOf hit n) c)) := hE7
  have hlog : w7.cell? ⟨w.heap.size + 1 + 1, 0, none⟩ = some (.slice none 0 0) := (hbut.cell (by show w.heap.size + 1 + 1 < _; omega) (by show ¬ (w.heap.size + 1 + 1 = _ ∨ w.heap.size + 1 + 1 = _); omega)).trans hl4
  have hs7 : w.heap.size + 1 + 1 + 1 < w7.heap.size := by have := hbut.size; omega
  clear hbut hE7 hA4 hb4 hN4 hE4 hl4 hf4 hs4 hmk HT HO HS HL HZ
  go_wp2
  go_loopw [10, 11] (fun fi i wr => ∃ k : Nat, k ≤ n ∧ i = .int .i64 k ∧ fi = .int .i64 (-1) ∧ Below w7.heap.size w7 wr ∧ Hid (∀ j, j < k → hit j = false)) (fun _ i _ => n - (intOf i).toNat)
  case atStart => exact ⟨0, Nat.zero_le _, rfl, rfl, Below.refl _ _, fun j hj => absurd hj (Nat.not_lt_zero _)⟩
  case round =>
    obtain ⟨k, hk, rfl, rfl, hbr, Hno⟩ := hrel
    have HBR : Hid (Below w7.heap.size w7 wr) := hbr
    clear hbr
    by_cases hlt : k < n
    · have hlt' : (k : Int) < (n : Int) := by omega
      have HC : Hid (At wr b (off + k * 22) ((c k).take 16)) := by
        show At _ _ _ _
        have := ((HE1.out.at_ k hlt).below HBR.out (by omega)).sub 0 16
        simpa using this
      have HAr : Hid (At wr w.heap.size 0 nm) := HA.out.below HBR.out (by omega)
      have H1 : Hid ((Yba.prog.info? 26).map (·.size) = some ((c k).take 16).toArray.size) := by show _ = _; rw [info26]; simp [HG.out.len k hlt]
      go_wp2
      refine wp_region_quiet_lit (by kernel_rfl) (by kernel_rfl) ?_
      repeat (first
        | (refine wpQuiet_load_at rfl 26 _ rfl b (off + k * 22) ((c k).take 16).toArray rfl _ Yba.underlying26 rfl H1.out HC.out ?_)
        | (refine wpQuiet_load_at rfl 26 _ rfl w.heap.size 0 nm.toArray rfl _ Yba.underlying26 rfl H2.out HAr.out ?_)
        | (refine wpQuiet_binOp rfl .eql 26 26 _ _ rfl _ _ (.bool (hit k)) rfl rfl (fun w => run_eqGuard_agg w _ _ _ _ _ _ guard26) (HG.out.hits k hlt) ?_)
        | go_big_quiet_step (fail))
      refine wpQuiet_nil ?_
      intro _ hw'
      obtain ⟨nq, hw''⟩ := hw'
      subst hw''
      by_cases hh : hit k = true
      · rw [hh]
        have HF : Hid (firstOf hit n = (k : Int)) := firstOf_at hlt Hno.out hh
        obtain ⟨wx, hwx⟩ : ∃ wx, wx = wr.drewN nq := ⟨_, rfl⟩
        have HX : Hid (Below w7.heap.size w7 wx) := by show Below _ _ _; rw [hwx]; exact below_drewN HBR.out _
        have h29x : wx.cell? ⟨w.heap.size + 1 + 1 + 1, 29, none⟩ = some (.slice (some ⟨w.heap.size + 1, 0, none⟩) n n) := (HX.out.cell (by show _ + 1 + 1 + 1 < _; omega)).trans h29
        rw [← hwx]
        clear hwx HBR HC HAr hlt' H1
        go_wp2
        go_loopw [12] (fun i wz => ∃ m : Nat, m ≤ n ∧ i = .int .i64 m ∧ Below w7.heap.size w7 wz) (fun i _ => n - (intOf i).toNat)
        case atStart => exact ⟨0, Nat.zero_le _, rfl, HX.out⟩
        case round =>
          obtain ⟨m, hm, rfl, hbz⟩ := hrel
          have HBZ : Hid (Below w7.heap.size w7 wr) := hbz
          have hsz : w7.heap.size ≤ wr.heap.size := hbz.size
          clear hbz
          by_cases hmn : m < n
          · have hmn' : (m : Int) < (n : Int) := by omega
            have HC2 : Hid (At wr b (off + m * 22) (c m)) := (HE1.out.at_ m hmn).below HBZ.out (by omega)
            have H36 : Hid ((Yba.prog.info? 36).map (·.size) = some (c m).toArray.size) := by show _ = _; rw [info36]; simp [HG.out.len m hmn]
            have HO1 : Hid ((c m).toArray.toList.all (·.oneCell') = true) := by show _ = _; simpa using HG.out.one m hmn
            by_cases emf : (m : Int) = (k : Int)
            · have hbq : ((m : Int) == (k : Int)) = true := by rw [beq_iff_eq]; exact emf
              obtain ⟨v19, h19⟩ : ∃ v19, (c m)[19]? = some v19 := ⟨_, List.getElem?_eq_getElem (by have := HG.out.len m hmn; omega)⟩
              have hmk : marked (firstOf hit n) c m = (c m).set 19 (.bool true) := by rw [HF.out]; unfold marked; rw [if_pos emf]
              have H37 : Hid ((Yba.prog.info? 36).map (·.size) = some ((c m).set 19 (.bool true)).toArray.size) := by show _ = _; rw [info36]; simp [HG.out.len m hmn]
              have HSame : Hid (∀ w : World, (binOp .neq 36 (.agg ((c m).set 19 (.bool true)).toArray) (.agg ((c m).set 19 (.bool true)).toArray)).run Yba.prog w = .ok (.bool false) w) := by
                have := HG.out.same m hmn (firstOf hit n)
                rw [hmk] at this
                exact this
              have hblk : (wr.alloc (.cells ((c m).set 19 (.bool true)).toArray 36)).heap[w.heap.size + 1]? = w7.heap[w.heap.size + 1]? := (Below.heap_alloc _ _ _ (by omega)).trans (HBZ.out.block _ (by omega))
              have HOwn : Hid (At (wr.alloc (.cells ((c m).set 19 (.bool true)).toArray 36)) (w.heap.size + 1) (m * 22) ((c m).set 19 (.bool true))) := by
                show At _ _ _ _
                have := (HE7.out.at_ m hmn).block hblk
                rw [hmk, Nat.zero_add] at this
                exact this
              have HWant : Hid (At (wr.alloc (.cells ((c m).set 19 (.bool true)).toArray 36)) wr.heap.size 0 ((c m).set 19 (.bool true))) := At.ofHeap (cs := ((c m).set 19 (.bool true)).toArray) (heap_alloc_new wr _)
              have h29z : (wr.alloc (.cells ((c m).set 19 (.bool true)).toArray 36)).cell? ⟨w.heap.size + 1 + 1 + 1, 29, none⟩ = some (.slice (some ⟨w.heap.size + 1, 0, none⟩) n n) := ((World.cell?_alloc_lt _ _ _ (by show _ + 1 + 1 + 1 < _; omega)).trans (HBZ.out.cell (by show _ + 1 + 1 + 1 < _; omega))).trans h29
              clear hmk hblk
              clear emf
              go_wp2_with (first
                | (refine wpList_load_at rfl 36 _ rfl b (off + m * 22) (c m).toArray rfl _ Yba.underlying36 rfl H36.out HC2.out ?_)
                | (refine wpList_store_new rfl 36 _ _ rfl (c m).toArray rfl rfl 36 _ H36.out (by simp [HG.out.len m hmn]) HO1.out ?_)
                | fail)
              refine wp_region_quiet_lit (by kernel_rfl) (by kernel_rfl) ?_
              repeat (first
                | (refine wpQuiet_load_at rfl 36 _ rfl (w.heap.size + 1) (m * 22) ((c m).set 19 (.bool true)).toArray rfl _ Yba.underlying36 rfl H37.out HOwn.out ?_)
                | (refine wpQuiet_load_at rfl 36 _ rfl wr.heap.size 0 ((c m).set 19 (.bool true)).toArray rfl _ Yba.underlying36 rfl H37.out HWant.out ?_)
                | (refine wpQuiet_binOp rfl .neq 36 36 _ _ rfl _ _ (.bool false) rfl rfl (fun w => run_eqGuard_agg w _ _ _ _ _ _ guard36) HSame.out ?_)
                | go_big_quiet_step (fail))
              refine wpQuiet_nil ?_
              intro _ hw'
              obtain ⟨nq2, hw''⟩ := hw'
              subst hw''
              go_wp2
              go_roundw
              case rel => exact ⟨m + 1, by omega, by go_num, below_drewN ((HBZ.out).alloc (by omega) _) _⟩
              case measure => simp [intOf]; omega

            · have hbq : ((m : Int) == (k : Int)) = false := by rw [beq_eq_false_iff_ne]; exact emf
              have hmk : marked (firstOf hit n) c m = c m := by rw [HF.out]; unfold marked; rw [if_neg emf]
              have H37 : Hid ((Yba.prog.info? 36).map (·.size) = some (c m).toArray.size) := by show _ = _; rw [info36]; simp [HG.out.len m hmn]
              have HSame : Hid (∀ w : World, (binOp .neq 36 (.agg (c m).toArray) (.agg (c m).toArray)).run Yba.prog w = .ok (.bool false) w) := by
                have := HG.out.same m hmn (firstOf hit n)
                rw [hmk] at this
                exact this
              have hblk : (wr.alloc (.cells (c m).toArray 36)).heap[w.heap.size + 1]? = w7.heap[w.heap.size + 1]? := (Below.heap_alloc _ _ _ (by omega)).trans (HBZ.out.block _ (by omega))
              have HOwn : Hid (At (wr.alloc (.cells (c m).toArray 36)) (w.heap.size + 1) (m * 22) (c m)) := by
                show At _ _ _ _
                have := (HE7.out.at_ m hmn).block hblk
                rw [hmk, Nat.zero_add] at this
                exact this
              have HWant : Hid (At (wr.alloc (.cells (c m).toArray 36)) wr.heap.size 0 (c m)) := At.ofHeap (cs := (c m).toArray) (heap_alloc_new wr _)
              have h29z : (wr.alloc (.cells (c m).toArray 36)).cell? ⟨w.heap.size + 1 + 1 + 1, 29, none⟩ = some (.slice (some ⟨w.heap.size + 1, 0, none⟩) n n) := ((World.cell?_alloc_lt _ _ _ (by show _ + 1 + 1 + 1 < _; omega)).trans (HBZ.out.cell (by show _ + 1 + 1 + 1 < _; omega))).trans h29
              clear hmk hblk
              clear emf
              go_wp2_with (first
                | (refine wpList_load_at rfl 36 _ rfl b (off + m * 22) (c m).toArray rfl _ Yba.underlying36 rfl H36.out HC2.out ?_)
                | (refine wpList_store_new rfl 36 _ _ rfl (c m).toArray rfl rfl 36 _ H36.out (by simp [HG.out.len m hmn]) HO1.out ?_)
                | fail)
              refine wp_region_quiet_lit (by kernel_rfl) (by kernel_rfl) ?_
              repeat (first
                | (refine wpQuiet_load_at rfl 36 _ rfl (w.heap.size + 1) (m * 22) (c m).toArray rfl _ Yba.underlying36 rfl H37.out HOwn.out ?_)
                | (refine wpQuiet_load_at rfl 36 _ rfl wr.heap.size 0 (c m).toArray rfl _ Yba.underlying36 rfl H37.out HWant.out ?_)
                | (refine wpQuiet_binOp rfl .neq 36 36 _ _ rfl _ _ (.bool false) rfl rfl (fun w => run_eqGuard_agg w _ _ _ _ _ _ guard36) HSame.out ?_)
                | go_big_quiet_step (fail))
              refine wpQuiet_nil ?_
              intro _ hw'
              obtain ⟨nq2, hw''⟩ := hw'
              subst hw''
              go_wp2
              go_roundw
              case rel => exact ⟨m + 1, by omega, by go_num, below_drewN ((HBZ.out).alloc (by omega) _) _⟩
              case measure => simp [intOf]; omega
          · have HLZ : Hid (wr.cell? ⟨w.heap.size + 1 + 1, 0, none⟩ = w7.cell? ⟨w.heap.size + 1 + 1, 0, none⟩) := HBZ.out.cell (by show _ + 1 + 1 < _; omega)
            have hlz : wr.cell? ⟨w.heap.size + 1 + 1, 0, none⟩ = some (.slice none 0 0) := HLZ.out.trans hlog
            go_wp2
            go_ret
            exact ⟨rfl, HB.out.trans (HBZ.out.mono (by omega))⟩

      · have hh' : hit k = false := by simpa using hh
        rw [hh']
        go_wp2
        go_roundw
        case rel => exact ⟨k + 1, by omega, by go_num, rfl, below_drewN HBR.out _, no_succ Hno.out hh'⟩
        case measure => simp [intOf]; omega
    · have HF : Hid (firstOf hit n = -1) := firstOf_none (by have e : k = n := by omega
                                                             rw [← e]; exact Hno.out)
      have HBR0 : Hid (Below w7.heap.size w7 wr) := HBR.out
      have h29x : wr.cell? ⟨w.heap.size + 1 + 1 + 1, 29, none⟩ = some (.slice (some ⟨w.heap.size + 1, 0, none⟩) n n) := (HBR.out.cell (by show _ + 1 + 1 + 1 < _; omega)).trans h29
      go_wp2
      go_loopw [12] (fun i wz => ∃ m : Nat, m ≤ n ∧ i = .int .i64 m ∧ Below w7.heap.size w7 wz) (fun i _ => n - (intOf i).toNat)
      case atStart => exact ⟨0, Nat.zero_le _, rfl, HBR0.out⟩
      case round =>
        obtain ⟨m, hm, rfl, hbz⟩ := hrel
        have HBZ : Hid (Below w7.heap.size w7 wr) := hbz
        have hsz : w7.heap.size ≤ wr.heap.size := hbz.size
        clear hbz
        by_cases hmn : m < n
        · have hmn' : (m : Int) < (n : Int) := by omega
          have HC2 : Hid (At wr b (off + m * 22) (c m)) := (HE1.out.at_ m hmn).below HBZ.out (by omega)
          have H36 : Hid ((Yba.prog.info? 36).map (·.size) = some (c m).toArray.size) := by show _ = _; rw [info36]; simp [HG.out.len m hmn]
          have HO1 : Hid ((c m).toArray.toList.all (·.oneCell') = true) := by show _ = _; simpa using HG.out.one m hmn
          by_cases emf : (m : Int) = -1
          · exact absurd emf (by omega)
          · have hbq : ((m : Int) == -1) = false := by rw [beq_eq_false_iff_ne]; exact emf
            have hmk : marked (firstOf hit n) c m = c m := by rw [HF.out]; unfold marked; rw [if_neg emf]
            have H37 : Hid ((Yba.prog.info? 36).map (·.size) = some (c m).toArray.size) := by show _ = _; rw [info36]; simp [HG.out.len m hmn]
            have HSame : Hid (∀ w : World, (binOp .neq 36 (.agg (c m).toArray) (.agg (c m).toArray)).run Yba.prog w = .ok (.bool false) w) := by
              have := HG.out.same m hmn (firstOf hit n)
              rw [hmk] at this
              exact this
            have hblk : (wr.alloc (.cells (c m).toArray 36)).heap[w.heap.size + 1]? = w7.heap[w.heap.size + 1]? := (Below.heap_alloc _ _ _ (by omega)).trans (HBZ.out.block _ (by omega))
            have HOwn : Hid (At (wr.alloc (.cells (c m).toArray 36)) (w.heap.size + 1) (m * 22) (c m)) := by
              show At _ _ _ _
              have := (HE7.out.at_ m hmn).block hblk
              rw [hmk, Nat.zero_add] at this
              exact this
            have HWant : Hid (At (wr.alloc (.cells (c m).toArray 36)) wr.heap.size 0 (c m)) := At.ofHeap (cs := (c m).toArray) (heap_alloc_new wr _)
            have h29z : (wr.alloc (.cells (c m).toArray 36)).cell? ⟨w.heap.size + 1 + 1 + 1, 29, none⟩ = some (.slice (some ⟨w.heap.size + 1, 0, none⟩) n n) := ((World.cell?_alloc_lt _ _ _ (by show _ + 1 + 1 + 1 < _; omega)).trans (HBZ.out.cell (by show _ + 1 + 1 + 1 < _; omega))).trans h29
            clear hmk hblk
            clear emf
            go_wp2_with (first
              | (refine wpList_load_at rfl 36 _ rfl b (off + m * 22) (c m).toArray rfl _ Yba.underlying36 rfl H36.out HC2.out ?_)
              | (refine wpList_store_new rfl 36 _ _ rfl (c m).toArray rfl rfl 36 _ H36.out (by simp [HG.out.len m hmn]) HO1.out ?_)
              | fail)
            refine wp_region_quiet_lit (by kernel_rfl) (by kernel_rfl) ?_
            repeat (first
              | (refine wpQuiet_load_at rfl 36 _ rfl (w.heap.size + 1) (m * 22) (c m).toArray rfl _ Yba.underlying36 rfl H37.out HOwn.out ?_)
              | (refine wpQuiet_load_at rfl 36 _ rfl wr.heap.size 0 (c m).toArray rfl _ Yba.underlying36 rfl H37.out HWant.out ?_)
              | (refine wpQuiet_binOp rfl .neq 36 36 _ _ rfl _ _ (.bool false) rfl rfl (fun w => run_eqGuard_agg w _ _ _ _ _ _ guard36) HSame.out ?_)
              | go_big_quiet_step (fail))
            refine wpQuiet_nil ?_
            intro _ hw'
            obtain ⟨nq2, hw''⟩ := hw'
            subst hw''
            go_wp2
            go_roundw
            case rel => exact ⟨m + 1, by omega, by go_num, below_drewN ((HBZ.out).alloc (by omega) _) _⟩
            case measure => simp [intOf]; omega
        · have HLZ : Hid (wr.cell? ⟨w.heap.size + 1 + 1, 0, none⟩ = w7.cell? ⟨w.heap.size + 1 + 1, 0, none⟩) := HBZ.out.cell (by show _ + 1 + 1 < _; omega)
          have hlz : wr.cell? ⟨w.heap.size + 1 + 1, 0, none⟩ = some (.slice none 0 0) := HLZ.out.trans hlog
          go_wp2
          go_ret
          exact ⟨rfl, HB.out.trans (HBZ.out.mono (by omega))⟩


end Go.Proofs.Ybulkaisy.CWalk
