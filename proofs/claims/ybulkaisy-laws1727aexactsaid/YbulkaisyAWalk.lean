/-
  THE WALKS of 'fittingData' (function 6) and of 'LawS1727AExact' (function 3), a theorem a way.
-/
import Derived.Test.YbulkaisyChecked
import Derived.WalkKit
import Derived.WalkSpells
import Derived.WalkLawsBesides
import Derived.Outline
import Derived.Deep.QuietTactic
import Derived.BigQuiet
import Derived.Below
import Derived.Test.YbulkaisyKit
namespace Go.Proofs.Ybulkaisy.AWalk
open Go.RowKit Kit
set_option linter.unusedVariables false

abbrev ful (t : Int) (a : Option Addr) (len cap : Nat) : Array Value := #[.int .u8 0, .int .u8 0, .int .u8 0, .int .u8 0, .int .u8 0, .int .u8 0, .int .u8 0, .int .u8 0, .int .u8 0, .int .u8 0, .int .u8 0, .int .u8 0, .int .u8 0, .int .u8 0, .int .u8 0, .int .u8 0, .int .u16 t, .int .u16 1, .int .u32 1, .slice a len cap]
abbrev rrV (t : Int) (a : Option Addr) (len cap : Nat) : Value := .agg #[.int .u8 0, .int .u8 0, .int .u8 0, .int .u8 0, .int .u8 0, .int .u8 0, .int .u8 0, .int .u8 0, .int .u8 0, .int .u8 0, .int .u8 0, .int .u8 0, .int .u8 0, .int .u8 0, .int .u8 0, .int .u8 0, .int .u16 t, .int .u16 1, .int .u32 1, .slice a len cap]

set_option maxRecDepth 100000 in
set_option maxHeartbeats 400000 in
theorem fit_all (t : Int) (a : Option Addr) (len cap : Nat) (room : Int) (w : World) (h : (len : Int) ≤ room) :
    Calls Yba.prog 6 #[rrV t a len cap, .int .i64 room] w fun e w' => e = .returned (.tuple #[.slice a len cap, .bool true]) ∧ Below w.heap.size w w' := by
  go_enter Yba.func6, Yba.ntmps6
  go_wp2
  go_ret2
  exact ⟨rfl, (Below.refl _ _).alloc (Nat.le_refl _) _⟩

set_option maxRecDepth 100000 in
set_option maxHeartbeats 400000 in
theorem fit_none (t : Int) (a : Option Addr) (len cap : Nat) (room : Int) (w : World) (h : ¬ (len : Int) ≤ room) (h2 : t ≠ 32 ∨ room < 6) :
    Calls Yba.prog 6 #[rrV t a len cap, .int .i64 room] w fun e w' => e = .returned (.tuple #[.slice none 0 0, .bool false]) ∧ Below w.heap.size w w' := by
  by_cases ht : t = 32
  · have hr : ¬ 6 ≤ room := by omega
    subst ht
    go_enter Yba.func6, Yba.ntmps6
    go_wp2
    go_ret2
    exact ⟨rfl, (Below.refl _ _).alloc (Nat.le_refl _) _⟩
  · have ht2 : (t == 32) = false := by simpa using ht
    go_enter Yba.func6, Yba.ntmps6
    go_wp2
    go_ret2
    exact ⟨rfl, (Below.refl _ _).alloc (Nat.le_refl _) _⟩

set_option maxRecDepth 100000 in
set_option maxHeartbeats 400000 in
theorem fit_part (a : Addr) (len cap m : Nat) (room : Int) (w : World) (h : ¬ (len : Int) ≤ room) (h2 : 6 ≤ room) (hl : len ≤ cap) (hm : cap ≤ maxLen) (H : Hid ((m : Int) ≤ room ∧ room < m + 6 ∧ m % 6 = 0)) :
    Calls Yba.prog 6 #[rrV 32 (some a) len cap, .int .i64 room] w fun e w' => e = .returned (.tuple #[.slice (some a) m cap, .bool true]) ∧ Below w.heap.size w w' := by
  unfold maxLen at hm
  go_enter Yba.func6, Yba.ntmps6
  go_wp2
  have H2 := H.out
  have e : (room - room % 6).toNat = m := by omega
  go_ret2
  subst e
  exact ⟨rfl, (Below.refl _ _).alloc (Nat.le_refl _) _⟩

set_option maxRecDepth 100000 in
set_option maxHeartbeats 400000 in
theorem law_big (a : Option Addr) (len cap : Nat) (room : Int) (t : Int) (nb : Bool) (w : World) (hl : 65536 < len) :
    Calls Yba.prog 3 #[.slice a len cap, .int .i64 room, .int .u16 t, .bool nb] w fun e w' => e = .returned (.bool true) ∧ Below w.heap.size w w' := by
  have hl' : (65536 : Int) < (len : Int) := by omega
  clear hl
  go_enter Yba.func3, Yba.ntmps3
  go_wp2
  go_ret
  exact ⟨rfl, Below.refl _ _⟩

theorem built28 (t : Int) (a : Option Addr) (len cap : Nat) : Yba.prog.built 28 [(1, .int .u16 t), (2, .int .u16 1), (3, .int .u32 1), (4, .slice a len cap)] = some (ful t a len cap) := by kernel_rfl

set_option maxRecDepth 100000 in
set_option maxHeartbeats 1000000 in
theorem law_allF (b off : Nat) (len cap : Nat) (zs : List Int) (room : Int) (t : Int) (w : World) (hl : len ≤ 65536) (hr : (len : Int) ≤ room) (hcell : ∀ i, i < len → w.cell? ⟨b, off + i, none⟩ = some (.int .u8 (zs.getD i 0))) (hB : b < w.heap.size) :
    Calls Yba.prog 3 #[.slice (some ⟨b, off, none⟩) len cap, .int .i64 room, .int .u16 t, .bool false] w fun e w' => e = .returned (.bool true) ∧ Below w.heap.size w w' := by
  have q1 := fun (w : World) (a : Option Addr) (n c n' c' : Nat) => Lib.run_eql_slice_nil w 22 5 a n c n' c' Yba.underlying22
  have hl' : ¬ (65536 : Int) < (len : Int) := by omega
  have hl2 : (len : Int) ≤ 65536 := by omega
  have Hc : Hid (∀ i, i < len → w.cell? ⟨b, off + i, none⟩ = some (.int .u8 (zs.getD i 0))) := hcell
  clear hcell hl
  go_enter Yba.func3, Yba.ntmps3
  go_wp2_with (first
    | (refine wpList_build_to rfl 28 _ rfl _ _ (built28 t (some ⟨b, off, none⟩) len cap) rfl ?_)
    | (refine wpList_store_new rfl 28 _ _ rfl (ful t (some ⟨b, off, none⟩) len cap) rfl rfl 28 _ (by kernel_rfl) rfl rfl ?_)
    | (refine wpList_load_new rfl 28 _ rfl rfl 28 (ful t (some ⟨b, off, none⟩) len cap) _ Yba.underlying28 rfl (by kernel_rfl) ?_)
    | fail)
  refine (fit_all t _ len cap room _ hr).mono ?_
  rintro e w1 ⟨rfl, hb⟩
  obtain ⟨hc, hf⟩ := bcell hb
  go_wp2
  go_loopw [73] (fun i wr => ∃ k : Nat, k ≤ len ∧ i = .int .i64 k ∧ Below w.heap.size w wr) (fun i _ => len - (intOf i).toNat)
  case atStart => exact ⟨0, Nat.zero_le _, rfl, ((Below.refl _ _).alloc (Nat.le_refl _) _).trans (hb.mono (by simp))⟩
  case round =>
    obtain ⟨k, hk, rfl, hbr⟩ := hrel
    by_cases hlt : k < len
    · have hlt' : (k : Int) < (len : Int) := by omega
      have hlt2 : (k : Int) < (len : Int) := by omega
      have hx : wr.cell? ⟨b, off + k, none⟩ = some (.int .u8 (zs.getD k 0)) := (hbr.cell (p := ⟨b, off + k, none⟩) hB).trans (Hc.out k (by omega))
      go_wp2
      go_quiet (fail)
      go_wp2
      go_roundw
      case rel => exact ⟨k + 1, by omega, by go_num, below_drewN hbr _⟩
      case measure => simp [intOf]; omega
    · go_wp2
      go_ret
      exact ⟨rfl, hbr⟩

set_option maxRecDepth 100000 in
set_option maxHeartbeats 1000000 in
theorem law_emptyF (a : Option Addr) (cap : Nat) (room : Int) (t : Int) (w : World) (hr : 0 ≤ room) :
    Calls Yba.prog 3 #[.slice a 0 cap, .int .i64 room, .int .u16 t, .bool false] w fun e w' => e = .returned (.bool true) ∧ Below w.heap.size w w' := by
  have q1 := fun (w : World) (a : Option Addr) (n c n' c' : Nat) => Lib.run_eql_slice_nil w 22 5 a n c n' c' Yba.underlying22
  go_enter Yba.func3, Yba.ntmps3
  go_wp2_with (first
    | (refine wpList_build_to rfl 28 _ rfl _ _ (built28 t a 0 cap) rfl ?_)
    | (refine wpList_store_new rfl 28 _ _ rfl (ful t a 0 cap) rfl rfl 28 _ (by kernel_rfl) rfl rfl ?_)
    | (refine wpList_load_new rfl 28 _ rfl rfl 28 (ful t a 0 cap) _ Yba.underlying28 rfl (by kernel_rfl) ?_)
    | fail)
  refine (fit_all t _ 0 cap room _ hr).mono ?_
  rintro e w1 ⟨rfl, hb⟩
  obtain ⟨hc, hf⟩ := bcell hb
  go_wp2
  go_loopw [73] (fun i wr => i = .int .i64 0 ∧ Below w.heap.size w wr) (fun i _ => 0)
  case atStart => exact ⟨rfl, ((Below.refl _ _).alloc (Nat.le_refl _) _).trans (hb.mono (by simp))⟩
  case round =>
    obtain ⟨rfl, hbr⟩ := hrel
    go_wp2
    go_ret
    exact ⟨rfl, hbr⟩

set_option maxRecDepth 100000 in
set_option maxHeartbeats 1000000 in
theorem law_partF (b off : Nat) (len cap m : Nat) (zs : List Int) (room : Int) (w : World) (hl : len ≤ 65536) (hr : ¬ (len : Int) ≤ room) (h6 : 6 ≤ room) (hlc : len ≤ cap) (hcm : cap ≤ maxLen) (H : Hid ((m : Int) ≤ room ∧ room < m + 6 ∧ m % 6 = 0)) (hcell : ∀ i, i < len → w.cell? ⟨b, off + i, none⟩ = some (.int .u8 (zs.getD i 0))) (hB : b < w.heap.size) :
    Calls Yba.prog 3 #[.slice (some ⟨b, off, none⟩) len cap, .int .i64 room, .int .u16 32, .bool false] w fun e w' => e = .returned (.bool true) ∧ Below w.heap.size w w' := by
  have q1 := fun (w : World) (a : Option Addr) (n c n' c' : Nat) => Lib.run_eql_slice_nil w 22 5 a n c n' c' Yba.underlying22
  have hl' : ¬ (65536 : Int) < (len : Int) := by omega
  have hl2 : (len : Int) ≤ 65536 := by omega
  have hm1 : (m : Int) ≤ room := H.out.1
  have hm2 : 0 < m := by have := H.out; omega
  have hmn : ((m : Int) == (len : Int)) = false := by rw [beq_eq_false_iff_ne]; omega
  have Hc : Hid (∀ i, i < len → w.cell? ⟨b, off + i, none⟩ = some (.int .u8 (zs.getD i 0))) := hcell
  clear hcell hl
  go_enter Yba.func3, Yba.ntmps3
  go_wp2_with (first
    | (refine wpList_build_to rfl 28 _ rfl _ _ (built28 32 (some ⟨b, off, none⟩) len cap) rfl ?_)
    | (refine wpList_store_new rfl 28 _ _ rfl (ful 32 (some ⟨b, off, none⟩) len cap) rfl rfl 28 _ (by kernel_rfl) rfl rfl ?_)
    | (refine wpList_load_new rfl 28 _ rfl rfl 28 (ful 32 (some ⟨b, off, none⟩) len cap) _ Yba.underlying28 rfl (by kernel_rfl) ?_)
    | fail)
  refine (fit_part _ len cap m room _ (by omega) h6 hlc hcm H).mono ?_
  rintro e w1 ⟨rfl, hb⟩
  obtain ⟨hc, hf⟩ := bcell hb
  go_wp2
  go_loop [14] (fun i => ∃ j : Nat, i = .int .i64 j ∧ j ≤ m ∧ Hid (j % 6 = 0)) (fun i => (room - intOf i).toNat)
  case atStart => exact ⟨0, rfl, Nat.zero_le _, rfl⟩
  case round =>
    obtain ⟨j, rfl, hj, Hj⟩ := hrel
    by_cases hjr : (j : Int) + 6 ≤ room
    · go_wp2
      go_round
      case rel => exact ⟨j + 6, by go_num, by have := H.out; have := Hj.out; omega, by have := Hj.out; show (j + 6) % 6 = 0; omega⟩
      case measure => simp [intOf]; omega
    have ejm : j = m := by have := H.out; have := Hj.out; omega
    subst ejm
    go_wp2
    go_loopw [73] (fun i wr => ∃ k : Nat, k ≤ j ∧ i = .int .i64 k ∧ Below w.heap.size w wr) (fun i _ => j - (intOf i).toNat)
    case atStart => exact ⟨0, Nat.zero_le _, rfl, ((Below.refl _ _).alloc (Nat.le_refl _) _).trans (hb.mono (by simp))⟩
    case round =>
      obtain ⟨k, hk, rfl, hbr⟩ := hrel
      by_cases hlt : k < j
      · have hlt' : (k : Int) < (j : Int) := by omega
        have hlt2 : (k : Int) < (len : Int) := by omega
        have hx : wr.cell? ⟨b, off + k, none⟩ = some (.int .u8 (zs.getD k 0)) := (hbr.cell (p := ⟨b, off + k, none⟩) hB).trans (Hc.out k (by omega))
        go_wp2
        go_quiet (fail)
        go_wp2
        go_roundw
        case rel => exact ⟨k + 1, by omega, by go_num, below_drewN hbr _⟩
        case measure => simp [intOf]; omega
      · go_wp2
        go_ret
        exact ⟨rfl, hbr⟩

set_option maxRecDepth 100000 in
set_option maxHeartbeats 1000000 in
theorem law_allT (b off : Nat) (len cap : Nat) (zs : List Int) (room : Int) (t : Int) (w : World) (hl : len ≤ 65536) (hr : (len : Int) ≤ room) (hcell : ∀ i, i < len → w.cell? ⟨b, off + i, none⟩ = some (.int .u8 (zs.getD i 0))) (hB : b < w.heap.size) :
    Calls Yba.prog 3 #[.slice (some ⟨b, off, none⟩) len cap, .int .i64 room, .int .u16 t, .bool true] w fun e w' => e = .returned (.bool true) ∧ Below w.heap.size w w' := by
  have q1 := fun (w : World) (a : Option Addr) (n c n' c' : Nat) => Lib.run_eql_slice_nil w 22 5 a n c n' c' Yba.underlying22
  have hl' : ¬ (65536 : Int) < (len : Int) := by omega
  have hl2 : (len : Int) ≤ 65536 := by omega
  have Hc : Hid (∀ i, i < len → w.cell? ⟨b, off + i, none⟩ = some (.int .u8 (zs.getD i 0))) := hcell
  clear hcell hl
  go_enter Yba.func3, Yba.ntmps3
  go_wp2_with (first
    | (refine wpList_build_to rfl 28 _ rfl _ _ (built28 t (some ⟨b, off, none⟩) len cap) rfl ?_)
    | (refine wpList_store_new rfl 28 _ _ rfl (ful t (some ⟨b, off, none⟩) len cap) rfl rfl 28 _ (by kernel_rfl) rfl rfl ?_)
    | (refine wpList_load_new rfl 28 _ rfl rfl 28 (ful 32 (some ⟨b, off, none⟩) len cap) _ Yba.underlying28 rfl (by kernel_rfl) ?_)
    | fail)
  refine (fit_all 32 _ len cap room _ hr).mono ?_
  rintro e w1 ⟨rfl, hb⟩
  obtain ⟨hc, hf⟩ := bcell hb
  go_wp2
  go_loopw [73] (fun i wr => ∃ k : Nat, k ≤ len ∧ i = .int .i64 k ∧ Below w.heap.size w wr) (fun i _ => len - (intOf i).toNat)
  case atStart => exact ⟨0, Nat.zero_le _, rfl, ((Below.refl _ _).alloc (Nat.le_refl _) _).trans (hb.mono (by simp))⟩
  case round =>
    obtain ⟨k, hk, rfl, hbr⟩ := hrel
    by_cases hlt : k < len
    · have hlt' : (k : Int) < (len : Int) := by omega
      have hlt2 : (k : Int) < (len : Int) := by omega
      have hx : wr.cell? ⟨b, off + k, none⟩ = some (.int .u8 (zs.getD k 0)) := (hbr.cell (p := ⟨b, off + k, none⟩) hB).trans (Hc.out k (by omega))
      go_wp2
      go_quiet (fail)
      go_wp2
      go_roundw
      case rel => exact ⟨k + 1, by omega, by go_num, below_drewN hbr _⟩
      case measure => simp [intOf]; omega
    · go_wp2
      go_ret
      exact ⟨rfl, hbr⟩

set_option maxRecDepth 100000 in
set_option maxHeartbeats 1000000 in
theorem law_emptyT (a : Option Addr) (cap : Nat) (room : Int) (t : Int) (w : World) (hr : 0 ≤ room) :
    Calls Yba.prog 3 #[.slice a 0 cap, .int .i64 room, .int .u16 t, .bool true] w fun e w' => e = .returned (.bool true) ∧ Below w.heap.size w w' := by
  have q1 := fun (w : World) (a : Option Addr) (n c n' c' : Nat) => Lib.run_eql_slice_nil w 22 5 a n c n' c' Yba.underlying22
  go_enter Yba.func3, Yba.ntmps3
  go_wp2_with (first
    | (refine wpList_build_to rfl 28 _ rfl _ _ (built28 t a 0 cap) rfl ?_)
    | (refine wpList_store_new rfl 28 _ _ rfl (ful t a 0 cap) rfl rfl 28 _ (by kernel_rfl) rfl rfl ?_)
    | (refine wpList_load_new rfl 28 _ rfl rfl 28 (ful 32 a 0 cap) _ Yba.underlying28 rfl (by kernel_rfl) ?_)
    | fail)
  refine (fit_all 32 _ 0 cap room _ hr).mono ?_
  rintro e w1 ⟨rfl, hb⟩
  obtain ⟨hc, hf⟩ := bcell hb
  go_wp2
  go_loopw [73] (fun i wr => i = .int .i64 0 ∧ Below w.heap.size w wr) (fun i _ => 0)
  case atStart => exact ⟨rfl, ((Below.refl _ _).alloc (Nat.le_refl _) _).trans (hb.mono (by simp))⟩
  case round =>
    obtain ⟨rfl, hbr⟩ := hrel
    go_wp2
    go_ret
    exact ⟨rfl, hbr⟩

set_option maxRecDepth 100000 in
set_option maxHeartbeats 1000000 in
theorem law_partT (b off : Nat) (len cap m : Nat) (zs : List Int) (room : Int) (t : Int) (w : World) (hl : len ≤ 65536) (hr : ¬ (len : Int) ≤ room) (h6 : 6 ≤ room) (hlc : len ≤ cap) (hcm : cap ≤ maxLen) (H : Hid ((m : Int) ≤ room ∧ room < m + 6 ∧ m % 6 = 0)) (hcell : ∀ i, i < len → w.cell? ⟨b, off + i, none⟩ = some (.int .u8 (zs.getD i 0))) (hB : b < w.heap.size) :
    Calls Yba.prog 3 #[.slice (some ⟨b, off, none⟩) len cap, .int .i64 room, .int .u16 t, .bool true] w fun e w' => e = .returned (.bool true) ∧ Below w.heap.size w w' := by
  have q1 := fun (w : World) (a : Option Addr) (n c n' c' : Nat) => Lib.run_eql_slice_nil w 22 5 a n c n' c' Yba.underlying22
  have hl' : ¬ (65536 : Int) < (len : Int) := by omega
  have hl2 : (len : Int) ≤ 65536 := by omega
  have hm1 : (m : Int) ≤ room := H.out.1
  have hm2 : 0 < m := by have := H.out; omega
  have hmn : ((m : Int) == (len : Int)) = false := by rw [beq_eq_false_iff_ne]; omega
  have Hc : Hid (∀ i, i < len → w.cell? ⟨b, off + i, none⟩ = some (.int .u8 (zs.getD i 0))) := hcell
  clear hcell hl
  go_enter Yba.func3, Yba.ntmps3
  go_wp2_with (first
    | (refine wpList_build_to rfl 28 _ rfl _ _ (built28 t (some ⟨b, off, none⟩) len cap) rfl ?_)
    | (refine wpList_store_new rfl 28 _ _ rfl (ful t (some ⟨b, off, none⟩) len cap) rfl rfl 28 _ (by kernel_rfl) rfl rfl ?_)
    | (refine wpList_load_new rfl 28 _ rfl rfl 28 (ful 32 (some ⟨b, off, none⟩) len cap) _ Yba.underlying28 rfl (by kernel_rfl) ?_)
    | fail)
  refine (fit_part _ len cap m room _ (by omega) h6 hlc hcm H).mono ?_
  rintro e w1 ⟨rfl, hb⟩
  obtain ⟨hc, hf⟩ := bcell hb
  go_wp2
  go_loop [14] (fun i => ∃ j : Nat, i = .int .i64 j ∧ j ≤ m ∧ Hid (j % 6 = 0)) (fun i => (room - intOf i).toNat)
  case atStart => exact ⟨0, rfl, Nat.zero_le _, rfl⟩
  case round =>
    obtain ⟨j, rfl, hj, Hj⟩ := hrel
    by_cases hjr : (j : Int) + 6 ≤ room
    · go_wp2
      go_round
      case rel => exact ⟨j + 6, by go_num, by have := H.out; have := Hj.out; omega, by have := Hj.out; show (j + 6) % 6 = 0; omega⟩
      case measure => simp [intOf]; omega
    have ejm : j = m := by have := H.out; have := Hj.out; omega
    subst ejm
    go_wp2
    go_loopw [73] (fun i wr => ∃ k : Nat, k ≤ j ∧ i = .int .i64 k ∧ Below w.heap.size w wr) (fun i _ => j - (intOf i).toNat)
    case atStart => exact ⟨0, Nat.zero_le _, rfl, ((Below.refl _ _).alloc (Nat.le_refl _) _).trans (hb.mono (by simp))⟩
    case round =>
      obtain ⟨k, hk, rfl, hbr⟩ := hrel
      by_cases hlt : k < j
      · have hlt' : (k : Int) < (j : Int) := by omega
        have hlt2 : (k : Int) < (len : Int) := by omega
        have hx : wr.cell? ⟨b, off + k, none⟩ = some (.int .u8 (zs.getD k 0)) := (hbr.cell (p := ⟨b, off + k, none⟩) hB).trans (Hc.out k (by omega))
        go_wp2
        go_quiet (fail)
        go_wp2
        go_roundw
        case rel => exact ⟨k + 1, by omega, by go_num, below_drewN hbr _⟩
        case measure => simp [intOf]; omega
      · go_wp2
        go_ret
        exact ⟨rfl, hbr⟩

set_option maxRecDepth 100000 in
set_option maxHeartbeats 1000000 in
theorem law_noneFN (a : Option Addr) (len cap : Nat) (room : Int) (t : Int) (w : World) (hl : len ≤ 65536) (hr : ¬ (len : Int) ≤ room) (ht : t ≠ 32) :
    Calls Yba.prog 3 #[.slice a len cap, .int .i64 room, .int .u16 t, .bool false] w fun e w' => e = .returned (.bool true) ∧ Below w.heap.size w w' := by
  have q1 := fun (w : World) (a : Option Addr) (n c n' c' : Nat) => Lib.run_eql_slice_nil w 22 5 a n c n' c' Yba.underlying22
  have hl' : ¬ (65536 : Int) < (len : Int) := by omega
  have ht2 : (t == 32) = false := by simpa using ht
  go_enter Yba.func3, Yba.ntmps3
  go_wp2_with (first
    | (refine wpList_build_to rfl 28 _ rfl _ _ (built28 t a len cap) rfl ?_)
    | (refine wpList_store_new rfl 28 _ _ rfl (ful t a len cap) rfl rfl 28 _ (by kernel_rfl) rfl rfl ?_)
    | (refine wpList_load_new rfl 28 _ rfl rfl 28 (ful t a len cap) _ Yba.underlying28 rfl (by kernel_rfl) ?_)
    | fail)
  refine (fit_none t _ len cap room _ (by omega) (.inl ht)).mono ?_
  rintro e w1 ⟨rfl, hb⟩
  obtain ⟨hc, hf⟩ := bcell hb
  go_wp2
  go_ret
  exact ⟨rfl, ((Below.refl _ _).alloc (Nat.le_refl _) _).trans (hb.mono (by simp))⟩

set_option maxRecDepth 100000 in
set_option maxHeartbeats 1000000 in
theorem law_noneF6 (a : Option Addr) (len cap : Nat) (room : Int) (w : World) (hl : len ≤ 65536) (hr : ¬ (len : Int) ≤ room) (h6 : room < 6) :
    Calls Yba.prog 3 #[.slice a len cap, .int .i64 room, .int .u16 32, .bool false] w fun e w' => e = .returned (.bool true) ∧ Below w.heap.size w w' := by
  have q1 := fun (w : World) (a : Option Addr) (n c n' c' : Nat) => Lib.run_eql_slice_nil w 22 5 a n c n' c' Yba.underlying22
  have hl' : ¬ (65536 : Int) < (len : Int) := by omega
  have hj : ¬ (6 : Int) ≤ room := by omega
  go_enter Yba.func3, Yba.ntmps3
  go_wp2_with (first
    | (refine wpList_build_to rfl 28 _ rfl _ _ (built28 32 a len cap) rfl ?_)
    | (refine wpList_store_new rfl 28 _ _ rfl (ful 32 a len cap) rfl rfl 28 _ (by kernel_rfl) rfl rfl ?_)
    | (refine wpList_load_new rfl 28 _ rfl rfl 28 (ful 32 a len cap) _ Yba.underlying28 rfl (by kernel_rfl) ?_)
    | fail)
  refine (fit_none 32 _ len cap room _ (by omega) (.inr h6)).mono ?_
  rintro e w1 ⟨rfl, hb⟩
  obtain ⟨hc, hf⟩ := bcell hb
  go_wp2
  go_loop [14] (fun i => i = .int .i64 0) (fun i => 0)
  case atStart => exact rfl
  case round =>
    subst hrel
    go_wp2
    go_ret
    exact ⟨rfl, ((Below.refl _ _).alloc (Nat.le_refl _) _).trans (hb.mono (by simp))⟩

set_option maxRecDepth 100000 in
set_option maxHeartbeats 1000000 in
theorem law_noneT6 (a : Option Addr) (len cap : Nat) (room : Int) (t : Int) (w : World) (hl : len ≤ 65536) (hr : ¬ (len : Int) ≤ room) (h6 : room < 6) :
    Calls Yba.prog 3 #[.slice a len cap, .int .i64 room, .int .u16 t, .bool true] w fun e w' => e = .returned (.bool true) ∧ Below w.heap.size w w' := by
  have q1 := fun (w : World) (a : Option Addr) (n c n' c' : Nat) => Lib.run_eql_slice_nil w 22 5 a n c n' c' Yba.underlying22
  have hl' : ¬ (65536 : Int) < (len : Int) := by omega
  have hj : ¬ (6 : Int) ≤ room := by omega
  go_enter Yba.func3, Yba.ntmps3
  go_wp2_with (first
    | (refine wpList_build_to rfl 28 _ rfl _ _ (built28 t a len cap) rfl ?_)
    | (refine wpList_store_new rfl 28 _ _ rfl (ful t a len cap) rfl rfl 28 _ (by kernel_rfl) rfl rfl ?_)
    | (refine wpList_load_new rfl 28 _ rfl rfl 28 (ful 32 a len cap) _ Yba.underlying28 rfl (by kernel_rfl) ?_)
    | fail)
  refine (fit_none 32 _ len cap room _ (by omega) (.inr h6)).mono ?_
  rintro e w1 ⟨rfl, hb⟩
  obtain ⟨hc, hf⟩ := bcell hb
  go_wp2
  go_loop [14] (fun i => i = .int .i64 0) (fun i => 0)
  case atStart => exact rfl
  case round =>
    subst hrel
    go_wp2
    go_ret
    exact ⟨rfl, ((Below.refl _ _).alloc (Nat.le_refl _) _).trans (hb.mono (by simp))⟩
end Go.Proofs.Ybulkaisy.AWalk
