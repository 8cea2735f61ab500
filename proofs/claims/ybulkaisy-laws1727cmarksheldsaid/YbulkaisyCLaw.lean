/-
  THE WALKS of 'LawS1727CMarks' (function 4) and 'LawS1727CMarksHeld' (function 5), out of the contract of 'zzs1727crun' (function 7).
-/
import Derived.Test.YbulkaisyCRunOff
import Derived.Test.YbulkaisyCRunOn
import Derived.Test.YbulkaisyCRunE
import Derived.Test.YbulkaisyCData
namespace Go.Proofs.Ybulkaisy.CWalk
open Go.RowKit CKit
open Kit (wpList_store_new)
set_option linter.unusedVariables false

/-- The table in memory: empty, or n elements from an address on. -/
def Table (w : World) (a : Option Addr) (n : Nat) (c : Nat → List Value) : Prop := n = 0 ∨ ∃ b off, a = some ⟨b, off, none⟩ ∧ b < w.heap.size ∧ Elems w b off n c

theorem Table.alloc {w : World} {a : Option Addr} {n : Nat} {c : Nat → List Value} (h : Table w a n c) (o : Obj) : Table (w.alloc o) a n c := by
  rcases h with h | ⟨b, off, e, hb, he⟩
  · exact .inl h
  · exact .inr ⟨b, off, e, by simp; omega, he.below ((Below.refl _ _).alloc (Nat.le_refl _) _) hb⟩

theorem run7 (a : Option Addr) (n cap : Nat) (c : Nat → List Value) (nm : List Value) (hit : Nat → Bool) (nb : Bool) (w : World) (G : Good n c nm hit) (T : Table w a n c) :
    Calls Yba.prog 7 #[.slice a n cap, .agg nm.toArray, .bool nb] w fun e w' => e = .returned (.bool true) ∧ Below w.heap.size w w' := by
  rcases T with rfl | ⟨b, off, rfl, hb, he⟩
  · cases nb
    · exact run7e_off a cap c nm hit w G
    · exact run7e_on a cap c nm hit w G
  · cases nb
    · exact run7_off b off n cap c nm hit w hb G he
    · exact run7_on b off n cap c nm hit w hb G he

set_option maxRecDepth 100000 in
set_option maxHeartbeats 400000 in
theorem law4 (a : Option Addr) (n cap : Nat) (c : Nat → List Value) (nm : List Value) (nb : Bool) (w : World) (hm : Shape26 nm) (hc : ∀ i, i < n → Shape36 (c i)) (T : Table w a n c) :
    Calls Yba.prog 4 #[.slice a n cap, .agg nm.toArray, .bool nb] w fun e w' => e = .returned (.bool true) ∧ Below w.heap.size w w' := by
  by_cases hbig : 1024 < n
  · have hl : (1024 : Int) < (n : Int) := by omega
    go_enter Yba.func4, Yba.ntmps4
    go_wp2
    go_ret
    exact ⟨rfl, (Below.refl _ _).alloc (Nat.le_refl _) _⟩
  · have hl : ¬ (1024 : Int) < (n : Int) := by omega
    obtain ⟨hit, G⟩ := good_of (by omega) hc hm
    have HG : Hid (Good n c nm hit) := G
    have HT : Hid (Table w a n c) := T
    have H2 : Hid ((Yba.prog.info? 26).map (·.size) = some nm.toArray.size) := by show _ = _; rw [info26]; simp [hm.len]
    have HA : Hid (At (w.alloc (.cells nm.toArray 26)) w.heap.size 0 nm) := At.ofHeap (cs := nm.toArray) (heap_alloc_new w _)
    clear hm hc T G
    go_enter Yba.func4, Yba.ntmps4
    go_wp2_with (first
      | (refine wpList_load_at rfl 26 _ rfl w.heap.size 0 nm.toArray rfl _ Yba.underlying26 rfl H2.out HA.out ?_)
      | fail)
    refine (run7 a n cap c nm hit nb _ HG.out (HT.out.alloc _)).mono ?_
    rintro e w1 ⟨rfl, hb⟩
    go_wp2
    go_ret
    exact ⟨rfl, ((Below.refl _ _).alloc (Nat.le_refl _) _).trans (hb.mono (by simp))⟩

/-- The zero Name. -/
abbrev zeroNm : List Value := [.int .u8 0, .int .u8 0, .int .u8 0, .int .u8 0, .int .u8 0, .int .u8 0, .int .u8 0, .int .u8 0, .int .u8 0, .int .u8 0, .int .u8 0, .int .u8 0, .int .u8 0, .int .u8 0, .int .u8 0, .int .u8 0]
theorem zeroShape : Shape26 zeroNm := by
  refine ⟨rfl, fun i v hv => ?_⟩
  have hm : v ∈ zeroNm := List.mem_of_getElem? hv
  simp [zeroNm] at hm
  exact ⟨0, hm, by decide⟩

set_option maxRecDepth 100000 in
set_option maxHeartbeats 400000 in
theorem law5_empty (a : Option Addr) (cap : Nat) (c : Nat → List Value) (p : Int) (nb : Bool) (w : World) :
    Calls Yba.prog 5 #[.slice a 0 cap, .int .u16 p, .bool nb] w fun e w' => e = .returned (.bool true) ∧ Below w.heap.size w w' := by
  obtain ⟨hit, G⟩ := good_of (n := 0) (c := c) (by omega) (fun i hi => absurd hi (Nat.not_lt_zero _)) zeroShape
  have HG : Hid (Good 0 c zeroNm hit) := G
  have H2 : Hid ((Yba.prog.info? 26).map (·.size) = some zeroNm.toArray.size) := by show _ = _; rw [info26]; rfl
  have HA : Hid (At (w.alloc (.cells zeroNm.toArray 26)) w.heap.size 0 zeroNm) := At.ofHeap (cs := zeroNm.toArray) (heap_alloc_new w _)
  clear G
  go_enter Yba.func5, Yba.ntmps5
  go_wp2_with (first
    | (refine wpList_load_at rfl 26 _ rfl w.heap.size 0 zeroNm.toArray rfl _ Yba.underlying26 rfl H2.out HA.out ?_)
    | fail)
  refine (run7 a 0 cap c zeroNm hit nb _ HG.out (.inl rfl)).mono ?_
  rintro e w1 ⟨rfl, hb⟩
  go_wp2
  go_ret
  exact ⟨rfl, ((Below.refl _ _).alloc (Nat.le_refl _) _).trans (hb.mono (by simp))⟩

set_option maxRecDepth 100000 in
set_option maxHeartbeats 400000 in
theorem law5_some (b off n cap : Nat) (c : Nat → List Value) (p : Nat) (nb : Bool) (w : World) (hn0 : 0 < n) (hp : p ≤ 65535) (hn : n ≤ 1024) (hc : ∀ i, i < n → Shape36 (c i)) (hb : b < w.heap.size) (he : Elems w b off n c) :
    Calls Yba.prog 5 #[.slice (some ⟨b, off, none⟩) n cap, .int .u16 p, .bool nb] w fun e w' => e = .returned (.bool true) ∧ Below w.heap.size w w' := by
  have hl : ¬ (1024 : Int) < (n : Int) := by omega
  have hl0 : (0 : Int) < (n : Int) := by omega
  have hk : p % n < n := Nat.mod_lt _ hn0
  obtain ⟨nm, hnm⟩ : ∃ nm, nm = (c (p % n)).take 16 := ⟨_, rfl⟩
  have hsh : Shape26 nm := by rw [hnm]; exact (hc _ hk).name
  obtain ⟨hit, G⟩ := good_of hn hc hsh
  have HG : Hid (Good n c nm hit) := G
  have HE : Hid (Elems w b off n c) := he
  have HB : Hid (At (w.alloc (.cells zeroNm.toArray 26)) b (off + p % n * 22) nm) := by
    show At _ _ _ _
    rw [hnm]
    have := ((he.at_ _ hk).alloc (.cells zeroNm.toArray 26) hb).sub 0 16
    simpa using this
  have H2 : Hid ((Yba.prog.info? 26).map (·.size) = some nm.toArray.size) := by show _ = _; rw [info26]; simp [hsh.len]
  have HL : Hid (zeroNm.toArray.size = nm.toArray.size) := by show _ = _; simp [hsh.len]
  have HO : Hid (nm.toArray.toList.all (·.oneCell') = true) := by show _ = _; simpa using hsh.one
  have HA : Hid (At (w.alloc (.cells nm.toArray 26)) w.heap.size 0 nm) := At.ofHeap (cs := nm.toArray) (heap_alloc_new w _)
  have hk1 : (p : Int) % (n : Int) < (n : Int) := Int.emod_lt_of_pos _ hl0
  have hk2 : 0 ≤ (p : Int) % (n : Int) := Int.emod_nonneg _ (by omega)
  clear hc he hnm hsh G hk
  go_enter Yba.func5, Yba.ntmps5
  go_wp2_with (first
    | (refine wpList_load_at rfl 26 _ rfl b (off + p % n * 22) nm.toArray rfl _ Yba.underlying26 rfl H2.out HB.out ?_)
    | (refine wpList_store_new rfl 26 _ _ rfl nm.toArray rfl rfl 26 _ H2.out HL.out HO.out ?_)
    | (refine wpList_load_at rfl 26 _ rfl w.heap.size 0 nm.toArray rfl _ Yba.underlying26 rfl H2.out HA.out ?_)
    | fail)
  refine (run7 _ n cap c nm hit nb _ HG.out (.inr ⟨b, off, rfl, ?hb, ?he⟩)).mono ?_
  case hb => simp; omega
  case he => exact HE.out.below ((Below.refl _ _).alloc (Nat.le_refl _) _) hb
  rintro e w1 ⟨rfl, hb1⟩
  go_wp2
  go_ret
  exact ⟨rfl, ((Below.refl _ _).alloc (Nat.le_refl _) _).trans (hb1.mono (by simp))⟩

set_option maxHeartbeats 400000 in
theorem law5_big (a : Option Addr) (n cap : Nat) (p : Int) (nb : Bool) (w : World) (hbig : 1024 < n) :
    Calls Yba.prog 5 #[.slice a n cap, .int .u16 p, .bool nb] w fun e w' => e = .returned (.bool true) ∧ Below w.heap.size w w' := by
  have hl : (1024 : Int) < (n : Int) := by omega
  go_enter Yba.func5, Yba.ntmps5
  go_wp2
  go_ret
  exact ⟨rfl, Below.refl _ _⟩

theorem law5 (a : Option Addr) (n cap : Nat) (c : Nat → List Value) (p : Int) (nb : Bool) (w : World) (hp : 0 ≤ p ∧ p ≤ 65535) (hc : ∀ i, i < n → Shape36 (c i)) (T : Table w a n c) :
    Calls Yba.prog 5 #[.slice a n cap, .int .u16 p, .bool nb] w fun e w' => e = .returned (.bool true) ∧ Below w.heap.size w w' := by
  by_cases hbig : 1024 < n
  · exact law5_big a n cap p nb w hbig
  · obtain ⟨q, rfl⟩ := Int.eq_ofNat_of_zero_le hp.1
    by_cases h0 : n = 0
    · subst h0
      exact law5_empty a cap c _ nb w
    · rcases T with h | ⟨b, off, rfl, hb, he⟩
      · exact absurd h h0
      · exact law5_some b off n cap c q nb w (by omega) (by omega) (by omega) hc hb he
end Go.Proofs.Ybulkaisy.CWalk
