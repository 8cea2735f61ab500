import Derived.Test.YbulkaisyChecked
import Derived.Test.YbulkaisyCKit
import Derived.WalkSpells
import Derived.WalkLawsBesides
import Derived.Outline
namespace Go.Proofs.Ybulkaisy.CWalk
open Go.RowKit CKit
set_option linter.unusedVariables false

theorem key26 : Yba.prog.keyTypeAt 4 26 = true := by kernel_rfl
theorem key36 : Yba.prog.keyTypeAt 4 36 = true := by kernel_rfl
theorem guard26 : Yba.prog.eqGuardType Yba.prog.depth 26 = false := by kernel_rfl
theorem guard36 : Yba.prog.eqGuardType Yba.prog.depth 36 = false := by kernel_rfl
theorem info26 : (Yba.prog.info? 26).map (·.size) = some 16 := by kernel_rfl
theorem info36 : (Yba.prog.info? 36).map (·.size) = some 22 := by kernel_rfl

theorem bcell {B : Nat} {W w1 : World} (hb : Below B W w1) : (∀ b o, b < B → w1.cell? ⟨b, o, none⟩ = W.cell? ⟨b, o, none⟩) ∧ (∀ b o, b < B → w1.frozen? ⟨b, o, none⟩ = W.frozen? ⟨b, o, none⟩) :=
  ⟨fun b o h => hb.cell (p := ⟨b, o, none⟩) h, fun b o h => hb.frozen (p := ⟨b, o, none⟩) h⟩

/-- What the walk of '==' on two names leans on: it gives r in every world. -/
def Eq26 (x y : List Value) (r : Bool) : Prop := ∀ w : World, (binOp .eql 26 (.agg x.toArray) (.agg y.toArray)).run Yba.prog w = .ok (.bool r) w

set_option maxRecDepth 100000 in
set_option maxHeartbeats 400000 in
/-- 'func(e NodeName) bool { return e.Name == name }' -/
theorem clo15 (c nm : List Value) (r : Bool) (p : Nat) (w : World) (hc : c.length = 22) (hn : nm.length = 16) (hp : At w p 0 nm) (hpl : p < w.heap.size) (hr : Eq26 (c.take 16) nm r) :
    Calls Yba.prog 15 #[.agg c.toArray, .pointer (some ⟨p, 0, none⟩)] w fun e w' => e = .returned (.bool r) ∧ Below w.heap.size w w' := by
  have HP : Hid (At (w.alloc (.cells c.toArray 36)) p 0 nm) := hp.alloc _ hpl
  have HC : Hid (At (w.alloc (.cells c.toArray 36)) w.heap.size 0 (c.take 16)) := by
    show At _ _ _ _
    have := (At.ofHeap (w := w.alloc (.cells c.toArray 36)) (heap_alloc_new w _)).sub 0 16
    simpa using this
  have HR : Hid (Eq26 (c.take 16) nm r) := hr
  have H1 : Hid ((Yba.prog.info? 26).map (·.size) = some (c.take 16).toArray.size) := by show _ = _; rw [info26]; simp [hc]
  have H2 : Hid ((Yba.prog.info? 26).map (·.size) = some nm.toArray.size) := by show _ = _; rw [info26]; simp [hn]
  clear hp hr hc hn
  go_enter Yba.func15, Yba.ntmps15
  go_wp2_with (first
    | (refine wpList_load_at rfl 26 _ rfl w.heap.size 0 (c.take 16).toArray rfl _ Yba.underlying26 rfl H1.out HC.out ?_)
    | (refine wpList_load_at rfl 26 _ rfl p 0 nm.toArray rfl _ Yba.underlying26 rfl H2.out HP.out ?_)
    | (refine wpList_binOp rfl .eql 26 _ _ _ rfl _ _ (.bool r) rfl rfl (fun w => run_eqGuard_agg w _ _ _ _ _ _ guard26) HR.out ?_)
    | fail)
  go_ret
  exact ⟨rfl, (Below.refl _ _).alloc (Nat.le_refl _) _⟩

/-- The first place below n at which 'hit' says yes; else -1. -/
def firstOf (hit : Nat → Bool) (n : Nat) : Int := match (List.range n).find? hit with | some k => (k : Int) | none => -1

theorem firstOf_at {hit : Nat → Bool} {n k : Nat} (hk : k < n) (hno : ∀ j, j < k → hit j = false) (hy : hit k = true) : firstOf hit n = (k : Int) := by
  unfold firstOf
  have : (List.range n).find? hit = some k := by
    rw [List.find?_range_eq_some]
    exact ⟨hy, by simpa using hk, fun j hj => by simp [hno j hj]⟩
  rw [this]
theorem firstOf_none {hit : Nat → Bool} {n : Nat} (hno : ∀ j, j < n → hit j = false) : firstOf hit n = -1 := by
  unfold firstOf
  have : (List.range n).find? hit = none := by
    rw [List.find?_range_eq_none]
    exact fun j hj => by simp [hno j hj]
  rw [this]
theorem firstOf_cases (hit : Nat → Bool) (n : Nat) : (firstOf hit n = -1 ∧ ∀ j, j < n → hit j = false) ∨ ∃ k, k < n ∧ firstOf hit n = (k : Int) ∧ hit k = true ∧ ∀ j, j < k → hit j = false := by
  unfold firstOf
  cases h : (List.range n).find? hit with
  | none => exact .inl ⟨rfl, fun j hj => by have := List.find?_eq_none.1 h j (by simpa using hj); simpa using this⟩
  | some k =>
    rw [List.find?_range_eq_some] at h
    exact .inr ⟨k, by simpa using h.2.1, rfl, h.1, fun j hj => by simpa using h.2.2 j hj⟩

theorem no_succ {hit : Nat → Bool} {k : Nat} (h : ∀ j, j < k → hit j = false) (hk : hit k = false) : ∀ j, j < k + 1 → hit j = false := fun j hj => by
  by_cases e : j = k
  · rw [e]; exact hk
  · exact h j (by omega)

/-- What a walk over the elements leans on: n elements of 22 cells each, c i, from ⟨b, off⟩ on; '==' of the i-th's name and nm gives hit i. -/
structure Elems (w : World) (b off n : Nat) (c : Nat → List Value) : Prop where
  len : ∀ i, i < n → (c i).length = 22
  at_ : ∀ i, i < n → At w b (off + i * 22) (c i)

theorem Elems.below {w w' : World} {B b off n : Nat} {c : Nat → List Value} (h : Elems w b off n c) (hb : Below B w w') (hB : b < B) : Elems w' b off n c :=
  ⟨h.len, fun i hi => (h.at_ i hi).below hb hB⟩

set_option maxRecDepth 100000 in
set_option maxHeartbeats 800000 in
/-- slices.IndexFunc at NodeName, over the closure above. -/
theorem index14 (b off n cap : Nat) (c : Nat → List Value) (nm : List Value) (hit : Nat → Bool) (p : Nat) (w : World) (hn : nm.length = 16) (hp : At w p 0 nm) (hpl : p < w.heap.size) (hbl : b < w.heap.size) (hnl : n ≤ 1024)
    (he : Elems w b off n c) (hr : ∀ i, i < n → Eq26 ((c i).take 16) nm (hit i)) :
    Calls Yba.prog 14 #[.slice (some ⟨b, off, none⟩) n cap, .func (.func 15) #[] #[.pointer (some ⟨p, 0, none⟩)]] w fun e w' => e = .returned (.int .i64 (firstOf hit n)) ∧ Below w.heap.size w w' := by
  have HP : Hid (At w p 0 nm) := hp
  have HE : Hid (Elems w b off n c) := he
  have HR : Hid (∀ i, i < n → Eq26 ((c i).take 16) nm (hit i)) := hr
  have HN : Hid (nm.length = 16) := hn
  clear hp hr he hn
  go_enter Yba.func14, Yba.ntmps14
  go_wp2
  go_loopw [8] (fun i wr => ∃ k : Nat, k ≤ n ∧ i = .int .i64 k ∧ Below w.heap.size w wr ∧ Hid (∀ j, j < k → hit j = false)) (fun i _ => n - (intOf i).toNat)
  case atStart => exact ⟨0, Nat.zero_le _, rfl, Below.refl _ _, fun j hj => absurd hj (Nat.not_lt_zero _)⟩
  case round =>
    obtain ⟨k, hk, rfl, hbr, Hno⟩ := hrel
    by_cases hlt : k < n
    · have hlt' : (k : Int) < (n : Int) := by omega
      have HB : Hid (Below w.heap.size w wr) := hbr
      have hsz : w.heap.size ≤ wr.heap.size := hbr.size
      clear hbr
      have HC : Hid (At wr b (off + k * 22) (c k)) := (HE.out.at_ k hlt).below HB.out hbl
      have H1 : Hid ((Yba.prog.info? 36).map (·.size) = some (c k).toArray.size) := by show _ = _; rw [info36]; simp [HE.out.len k hlt]
      go_wp2_with (first
        | (refine wpList_load_at rfl 36 _ rfl b (off + k * 22) (c k).toArray rfl _ Yba.underlying36 rfl H1.out HC.out ?_)
        | fail)
      refine (clo15 (c k) nm (hit k) p _ (HE.out.len k hlt) HN.out (HP.out.below HB.out hpl) (by omega) (HR.out k hlt)).mono ?_
      rintro e w1 ⟨rfl, hb1⟩
      have HB1 : Hid (Below w.heap.size w w1) := HB.out.trans (hb1.mono hsz)
      clear hb1
      by_cases hh : hit k = true
      · rw [hh]
        go_wp2
        go_ret
        exact ⟨by rw [firstOf_at hlt Hno.out hh]; rfl, HB1.out⟩
      · have hh' : hit k = false := by simpa using hh
        rw [hh']
        go_wp2
        go_roundw
        case rel => exact ⟨k + 1, by omega, by go_num, HB1.out, no_succ Hno.out hh'⟩
        case measure => simp [intOf]; omega
    · have hkn : k = n := by omega
      go_wp2
      go_ret
      exact ⟨by rw [firstOf_none (hkn ▸ Hno.out)]; rfl, hbr⟩

set_option maxRecDepth 100000 in
set_option maxHeartbeats 800000 in
/-- (*Node).holds -/
theorem holds11 (N b off n cap : Nat) (c : Nat → List Value) (nm : List Value) (hit : Nat → Bool) (w : World) (hn : nm.length = 16) (hNl : N < w.heap.size) (hbl : b < w.heap.size) (hnl : n ≤ 1024)
    (hN : w.cell? ⟨N, 29, none⟩ = some (.slice (some ⟨b, off, none⟩) n cap)) (he : Elems w b off n c) (hr : ∀ i, i < n → Eq26 ((c i).take 16) nm (hit i)) :
    Calls Yba.prog 11 #[.pointer (some ⟨N, 0, none⟩), .agg nm.toArray] w fun e w' => e = .returned (.int .i64 (firstOf hit n)) ∧ Below w.heap.size w w' := by
  have HE : Hid (Elems w b off n c) := he
  have HR : Hid (∀ i, i < n → Eq26 ((c i).take 16) nm (hit i)) := hr
  have HN : Hid (nm.length = 16) := hn
  clear hr he hn
  go_enter Yba.func11, Yba.ntmps11
  go_wp2_with fail
  refine (index14 b off n cap c nm hit w.heap.size _ HN.out ?hp (by simp) (by simp; omega) hnl ?he HR.out).mono ?_
  case hp => exact At.ofHeap (cs := nm.toArray) (heap_alloc_new w _)
  case he => exact HE.out.below ((Below.refl _ _).alloc (Nat.le_refl _) _) hbl
  rintro e w1 ⟨rfl, hb1⟩
  go_wp2
  go_ret
  exact ⟨rfl, ((Below.refl _ _).alloc (Nat.le_refl _) _).trans (hb1.mono (by simp))⟩
end Go.Proofs.Ybulkaisy.CWalk
