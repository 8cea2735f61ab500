import Derived.Test.YbulkaiuaBWalk
namespace Go.Proofs.Ybulkaiua.BWalk
open Go.RowKit Kit BPlain
set_option linter.unusedVariables false

theorem acc_bits (z : Nat → Nat) (hz : ∀ i, z i < 256) (o k : Nat) (hk : k < 8) : bits .or .u64 ((acc z o k : Int) * 256) ((z (o + k) : Int)) = ((acc z o (k + 1) : Nat) : Int) := by
  have h := acc_lt z hz o k
  have h2 : 256 ^ k ≤ 256 ^ 7 := Nat.pow_le_pow_right (by decide) (by omega)
  have h3 : (256 : Nat) ^ 7 = 72057594037927936 := by decide
  have h4 := hz (o + k)
  have e0 : (acc z o k : Int) * 256 = ((acc z o k * 256 : Nat) : Int) := by omega
  rw [e0, u64_or_nat _ _ (by omega) (by omega), or_byte _ _ h4]
  rfl

theorem wrap_dbl (H : Nat) : IntKind.u64.wrap ((H : Int) * 2) = ((H * 2 % 18446744073709551616 : Nat) : Int) := by
  rw [IntKind.wrap_u64]; omega

theorem nhi_bits (z : Nat → Nat) (hz : ∀ i, z i < 256) : bits .or .u64 (IntKind.u64.wrap ((acc z 0 8 : Int) * 2)) ((acc z 8 8 : Int) / 9223372036854775808) = ((nhi z : Nat) : Int) := by
  have h1 := acc_lt64 z hz 8
  have e1 : (acc z 8 8 : Int) / 9223372036854775808 = ((acc z 8 8 / 9223372036854775808 : Nat) : Int) := by omega
  rw [wrap_dbl, e1, u64_or_nat _ _ (by omega) (by omega), or_bit _ _ (by omega) (by omega)]
  rfl

theorem nlo_bits (z : Nat → Nat) (h : 128 ≤ z 0) : bits .xor .u64 (IntKind.u64.wrap ((acc z 8 8 : Int) * 2)) 135 = ((nlo z : Nat) : Int) := by
  rw [wrap_dbl, show (135 : Int) = ((135 : Nat) : Int) from rfl, u64_xor_nat _ _ (by omega) (by omega)]
  unfold nlo
  rw [if_pos h]

theorem nlo_same (z : Nat → Nat) (h : ¬ 128 ≤ z 0) : IntKind.u64.wrap ((acc z 8 8 : Int) * 2) = ((nlo z : Nat) : Int) := by
  rw [wrap_dbl]
  unfold nlo
  rw [if_neg h]

theorem nhi_lt (z : Nat → Nat) (hz : ∀ i, z i < 256) : nhi z < 18446744073709551616 := by
  have := top z hz 8
  have := hz 8
  unfold nhi
  omega
theorem nlo_lt (z : Nat → Nat) : nlo z < 18446744073709551616 := by
  unfold nlo
  split
  · exact Nat.xor_lt_two_pow (n := 64) (by omega) (by omega)
  · omega

/-- What the model has written after k rounds of its second loop. -/
def both (g : Nat → Nat) (k i : Nat) : Nat := if i < k ∨ (8 ≤ i ∧ i < 8 + k) then g i else 0

theorem byte_hi {z : Nat → Nat} {A k : Nat} (hA : A = nhi z) (hk : k < 8) : (A : Int) / 2 ^ (56 - 8 * k) % 256 = ((mdl z k : Nat) : Int) := by
  unfold mdl
  rw [if_pos hk, hA]
  simp
theorem byte_lo {z : Nat → Nat} {C k : Nat} (hC : C = nlo z) (hk : k < 8) : (C : Int) / 2 ^ (56 - 8 * k) % 256 = ((mdl z (8 + k) : Nat) : Int) := by
  unfold mdl
  rw [if_neg (by omega), hC, show 8 + k - 8 = k by omega]
  simp
theorem both_step (g : Nat → Nat) (k i : Nat) (hk : k < 8) : (if i = 8 + k then g (8 + k) else if i = k then g k else both g k i) = both g (k + 1) i := by
  unfold both
  by_cases e : i = 8 + k
  · rw [if_pos e, if_pos (by omega), e]
  · rw [if_neg e]
    by_cases e2 : i = k
    · rw [if_pos e2, if_pos (by omega), e2]
    · rw [if_neg e2]
      by_cases e3 : i < k ∨ (8 ≤ i ∧ i < 8 + k)
      · rw [if_pos e3, if_pos (by omega)]
      · rw [if_neg e3, if_neg (by omega)]

set_option maxRecDepth 100000 in
set_option maxHeartbeats 800000 in
theorem model10 (z : Nat → Nat) (hz : ∀ i, z i < 256) (w : World) :
    Calls Yba.prog 10 #[.agg (row z).toArray] w fun e w' => e = .returned (.agg (row (mdl z)).toArray) ∧ Below w.heap.size w w' := by
  have HZ : Hid (∀ i, z i < 256) := hz
  clear hz
  go_enter Yba.func10, Yba.ntmps10
  go_wp2
  obtain ⟨W2, hW2⟩ : ∃ W2, W2 = (w.alloc (.cells (row z).toArray 39)).alloc (.cells #[.int .u8 0, .int .u8 0, .int .u8 0, .int .u8 0, .int .u8 0, .int .u8 0, .int .u8 0, .int .u8 0, .int .u8 0, .int .u8 0, .int .u8 0, .int .u8 0, .int .u8 0, .int .u8 0, .int .u8 0, .int .u8 0] 39) := ⟨_, rfl⟩
  have hs2 : W2.heap.size = w.heap.size + 1 + 1 := by rw [hW2]; simp
  have HB : Hid (Below w.heap.size w W2) := by show Below _ _ _; rw [hW2]; exact ((Below.refl _ _).alloc (Nat.le_refl _) _).alloc (by simp) _
  have HS : Hid (Holds W2 w.heap.size z) := by show Holds _ _ _; rw [hW2]; exact (Holds.new w z).block (Below.heap_alloc _ _ _ (by simp))
  have HD : Hid (Holds W2 (w.heap.size + 1) (fun _ => 0)) := by show Holds _ _ _; rw [hW2]; exact heap_alloc2_new w _ _
  rw [← hW2]
  clear hW2
  go_loop [3, 4, 5] (fun h l i => ∃ k : Nat, k ≤ 8 ∧ i = .int .i64 k ∧ h = .int .u64 (acc z 0 k) ∧ l = .int .u64 (acc z 8 k)) (fun _ _ i => 8 - (intOf i).toNat)
  case atStart => exact ⟨0, Nat.zero_le _, rfl, rfl, rfl⟩
  case round =>
    obtain ⟨k, hk, rfl, rfl, rfl⟩ := hrel
    by_cases hlt : k < 8
    · have hlt' : (k : Int) < 8 := by omega
      have c0 := HS.out.cell k (by omega)
      have c1 := HS.out.cell (8 + k) (by omega)
      have b0 : (z k : Int) < 256 := by have := HZ.out k; omega
      have b1 : (z (8 + k) : Int) < 256 := by have := HZ.out (8 + k); omega
      have h2 : 256 ^ k ≤ 256 ^ 7 := Nat.pow_le_pow_right (by decide) (by omega)
      have h3 : (256 : Nat) ^ 7 = 72057594037927936 := by decide
      have d0 : (acc z 0 k : Int) < 72057594037927936 := by have := acc_lt z HZ.out 0 k; omega
      have d1 : (acc z 8 k : Int) < 72057594037927936 := by have := acc_lt z HZ.out 8 k; omega
      clear h2 h3
      go_wp2
      go_round
      case rel => exact ⟨k + 1, by omega, by go_num, congrArg _ (by have := acc_bits z HZ.out 0 k hlt; rwa [Nat.zero_add] at this), congrArg _ (acc_bits z HZ.out 8 k hlt)⟩
      case measure => simp [intOf]; omega
    · obtain rfl : k = 8 := by omega
      obtain ⟨H, hH⟩ : ∃ H, H = acc z 0 8 := ⟨_, rfl⟩
      obtain ⟨L, hL⟩ : ∃ L, L = acc z 8 8 := ⟨_, rfl⟩
      have HH : Hid (H = acc z 0 8) := hH
      have HL : Hid (L = acc z 8 8) := hL
      have dH : (H : Int) < 18446744073709551616 := by have := acc_lt64 z HZ.out 0; omega
      have dL : (L : Int) < 18446744073709551616 := by have := acc_lt64 z HZ.out 8; omega
      rw [← hH, ← hL]
      have ht := top z HZ.out 0
      rw [← hH] at ht
      have hz0 := HZ.out 0
      clear hH hL
      by_cases h0 : 128 ≤ z 0
      · have hq : ((H : Int) / 9223372036854775808 == 1) = true := by rw [beq_iff_eq]; omega
        clear ht
        go_wp2
        obtain ⟨A, hA⟩ : ∃ A, A = nhi z := ⟨_, rfl⟩
        obtain ⟨C, hC⟩ : ∃ C, C = nlo z := ⟨_, rfl⟩
        have HA : Hid (A = nhi z) := hA
        have HC : Hid (C = nlo z) := hC
        have dA : (A : Int) < 18446744073709551616 := by have := nhi_lt z HZ.out; omega
        have dC : (C : Int) < 18446744073709551616 := by have := nlo_lt z; omega
        have eA : bits .or .u64 (IntKind.u64.wrap ((H : Int) * 2)) ((L : Int) / 9223372036854775808) = (A : Int) := by rw [HH.out, HL.out, hA]; exact nhi_bits z HZ.out
        have eC : bits .xor .u64 (IntKind.u64.wrap ((L : Int) * 2)) 135 = (C : Int) := by rw [HL.out, hC]; exact nlo_bits z h0
        rw [eA, eC]
        clear eA eC hA hC hq
        obtain ⟨W3, hW3⟩ : ∃ W3, W3 = W2.alloc (.cells #[.int .u8 0, .int .u8 0, .int .u8 0, .int .u8 0, .int .u8 0, .int .u8 0, .int .u8 0, .int .u8 0, .int .u8 0, .int .u8 0, .int .u8 0, .int .u8 0, .int .u8 0, .int .u8 0, .int .u8 0, .int .u8 0] 39) := ⟨_, rfl⟩
        rw [← hW3]
        have HB3 : Hid (Below w.heap.size w W3) := by show Below _ _ _; rw [hW3]; exact HB.out.alloc (by omega) _
        have HD3 : Hid (Holds W3 (w.heap.size + 1) (fun _ => 0)) := by show Holds _ _ _; rw [hW3]; exact HD.out.block (Below.heap_alloc _ _ _ (by omega))
        have HE3 : Hid (Holds W3 (w.heap.size + 1 + 1) (both (mdl z) 0)) := by
          show Holds _ _ _
          rw [hW3, ← hs2]
          refine Holds.congr (f := fun _ => 0) (heap_alloc_new W2 _) fun i hi => ?_
          unfold both
          rw [if_neg (by omega)]
        clear hW3 HB HD HS HH HL dH dL hs2
        go_loopw [9] (fun i wr => ∃ k : Nat, k ≤ 8 ∧ i = .int .i64 k ∧ Below w.heap.size w wr ∧ Holds wr (w.heap.size + 1) (fun _ => 0) ∧ Holds wr (w.heap.size + 1 + 1) (both (mdl z) k)) (fun i _ => 8 - (intOf i).toNat)
        case atStart => exact ⟨0, Nat.zero_le _, rfl, HB3.out, HD3.out, HE3.out⟩
        case round =>
          obtain ⟨k, hk, rfl, hb, hd, he⟩ := hrel
          have HB : Hid (Below w.heap.size w wr) := hb
          have HD : Hid (Holds wr (w.heap.size + 1) (fun _ => 0)) := hd
          have HE : Hid (Holds wr (w.heap.size + 1 + 1) (both (mdl z) k)) := he
          clear hb hd he
          by_cases hlt : k < 8
          · have hlt' : (k : Int) < 8 := by omega
            have c0 := HE.out.cell k (by omega)
            have c1 := HE.out.cell (8 + k) (by omega)
            have f0 := HE.out.frozen k
            have f1 := HE.out.frozen (8 + k)
            go_wp2
            go_roundw
            case rel =>
              refine ⟨k + 1, by omega, by go_num, (HB.out.setCell (by show _ ≤ _ + 1 + 1; omega) _).setCell (by show _ ≤ _ + 1 + 1; omega) _, (HD.out.other _ _ (by simp)).other _ _ (by simp), ?_⟩
              rw [byte_hi HA.out hlt, byte_lo HC.out hlt]
              refine ((HE.out.set k _ (by omega)).set (8 + k) _ (by omega)).congr fun i hi => both_step (mdl z) k i hlt
            case measure => simp [intOf]; omega
          · obtain rfl : k = 8 := by omega
            have HF : Hid (Holds wr (w.heap.size + 1 + 1) (mdl z)) := HE.out.congr fun i hi => by unfold both; rw [if_pos (by omega)]
            clear HE
            go_wp2_with (first
              | (refine wpList_load_row rfl 39 _ rfl (w.heap.size + 1 + 1) rfl 39 (row (mdl z)).toArray (0, 0) _ HF.out Yba.underlying39 rfl (info39r _) ?_)
              | (refine wpList_store_row rfl 39 _ _ rfl (w.heap.size + 1) (row (mdl z)).toArray rfl rfl 39 _ HD.out (info39r _) (by simp [row_len]) (row_one _) ?_)
              | fail)
            refine bodyPost_ret (v := .agg (row (mdl z)).toArray) (results_cell_row Yba.results10 _ _ (w.heap.size + 1) 39 _ (0, 0) _ rfl (setRow_heap _ _ _ _ _ _ HD.out) Yba.underlying39 rfl (info39r _)) rfl ⟨rfl, ?_⟩
            exact HB.out.trans ⟨rfl, rfl, rfl, by simp, fun k hk => setRow_other _ _ _ _ (by omega)⟩
      · have hq : ((H : Int) / 9223372036854775808 == 1) = false := by rw [beq_eq_false_iff_ne]; omega
        clear ht
        go_wp2
        obtain ⟨A, hA⟩ : ∃ A, A = nhi z := ⟨_, rfl⟩
        obtain ⟨C, hC⟩ : ∃ C, C = nlo z := ⟨_, rfl⟩
        have HA : Hid (A = nhi z) := hA
        have HC : Hid (C = nlo z) := hC
        have dA : (A : Int) < 18446744073709551616 := by have := nhi_lt z HZ.out; omega
        have dC : (C : Int) < 18446744073709551616 := by have := nlo_lt z; omega
        have eA : bits .or .u64 (IntKind.u64.wrap ((H : Int) * 2)) ((L : Int) / 9223372036854775808) = (A : Int) := by rw [HH.out, HL.out, hA]; exact nhi_bits z HZ.out
        have eC : IntKind.u64.wrap ((L : Int) * 2) = (C : Int) := by rw [HL.out, hC]; exact nlo_same z h0
        rw [eA, eC]
        clear eA eC hA hC hq
        obtain ⟨W3, hW3⟩ : ∃ W3, W3 = W2.alloc (.cells #[.int .u8 0, .int .u8 0, .int .u8 0, .int .u8 0, .int .u8 0, .int .u8 0, .int .u8 0, .int .u8 0, .int .u8 0, .int .u8 0, .int .u8 0, .int .u8 0, .int .u8 0, .int .u8 0, .int .u8 0, .int .u8 0] 39) := ⟨_, rfl⟩
        rw [← hW3]
        have HB3 : Hid (Below w.heap.size w W3) := by show Below _ _ _; rw [hW3]; exact HB.out.alloc (by omega) _
        have HD3 : Hid (Holds W3 (w.heap.size + 1) (fun _ => 0)) := by show Holds _ _ _; rw [hW3]; exact HD.out.block (Below.heap_alloc _ _ _ (by omega))
        have HE3 : Hid (Holds W3 (w.heap.size + 1 + 1) (both (mdl z) 0)) := by
          show Holds _ _ _
          rw [hW3, ← hs2]
          refine Holds.congr (f := fun _ => 0) (heap_alloc_new W2 _) fun i hi => ?_
          unfold both
          rw [if_neg (by omega)]
        clear hW3 HB HD HS HH HL dH dL hs2
        go_loopw [9] (fun i wr => ∃ k : Nat, k ≤ 8 ∧ i = .int .i64 k ∧ Below w.heap.size w wr ∧ Holds wr (w.heap.size + 1) (fun _ => 0) ∧ Holds wr (w.heap.size + 1 + 1) (both (mdl z) k)) (fun i _ => 8 - (intOf i).toNat)
        case atStart => exact ⟨0, Nat.zero_le _, rfl, HB3.out, HD3.out, HE3.out⟩
        case round =>
          obtain ⟨k, hk, rfl, hb, hd, he⟩ := hrel
          have HB : Hid (Below w.heap.size w wr) := hb
          have HD : Hid (Holds wr (w.heap.size + 1) (fun _ => 0)) := hd
          have HE : Hid (Holds wr (w.heap.size + 1 + 1) (both (mdl z) k)) := he
          clear hb hd he
          by_cases hlt : k < 8
          · have hlt' : (k : Int) < 8 := by omega
            have c0 := HE.out.cell k (by omega)
            have c1 := HE.out.cell (8 + k) (by omega)
            have f0 := HE.out.frozen k
            have f1 := HE.out.frozen (8 + k)
            go_wp2
            go_roundw
            case rel =>
              refine ⟨k + 1, by omega, by go_num, (HB.out.setCell (by show _ ≤ _ + 1 + 1; omega) _).setCell (by show _ ≤ _ + 1 + 1; omega) _, (HD.out.other _ _ (by simp)).other _ _ (by simp), ?_⟩
              rw [byte_hi HA.out hlt, byte_lo HC.out hlt]
              refine ((HE.out.set k _ (by omega)).set (8 + k) _ (by omega)).congr fun i hi => both_step (mdl z) k i hlt
            case measure => simp [intOf]; omega
          · obtain rfl : k = 8 := by omega
            have HF : Hid (Holds wr (w.heap.size + 1 + 1) (mdl z)) := HE.out.congr fun i hi => by unfold both; rw [if_pos (by omega)]
            clear HE
            go_wp2_with (first
              | (refine wpList_load_row rfl 39 _ rfl (w.heap.size + 1 + 1) rfl 39 (row (mdl z)).toArray (0, 0) _ HF.out Yba.underlying39 rfl (info39r _) ?_)
              | (refine wpList_store_row rfl 39 _ _ rfl (w.heap.size + 1) (row (mdl z)).toArray rfl rfl 39 _ HD.out (info39r _) (by simp [row_len]) (row_one _) ?_)
              | fail)
            refine bodyPost_ret (v := .agg (row (mdl z)).toArray) (results_cell_row Yba.results10 _ _ (w.heap.size + 1) 39 _ (0, 0) _ rfl (setRow_heap _ _ _ _ _ _ HD.out) Yba.underlying39 rfl (info39r _)) rfl ⟨rfl, ?_⟩
            exact HB.out.trans ⟨rfl, rfl, rfl, by simp, fun k hk => setRow_other _ _ _ _ (by omega)⟩
end Go.Proofs.Ybulkaiua.BWalk
