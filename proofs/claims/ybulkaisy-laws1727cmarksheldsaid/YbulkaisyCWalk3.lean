import Derived.Test.YbulkaisyCWalk2
namespace Go.Proofs.Ybulkaisy.CWalk
open Go.RowKit CKit
set_option linter.unusedVariables false

/-- The world w' is w, but for new blocks and for what the blocks of S hold. -/
structure But (w w' : World) (S : Nat → Prop) : Prop where
  os : w'.os = w.os
  tape : w'.tape = w.tape
  output : w'.output = w.output
  size : w.heap.size ≤ w'.heap.size
  block : ∀ k, k < w.heap.size → ¬ S k → w'.heap[k]? = w.heap[k]?

theorem But.refl (w : World) (S : Nat → Prop) : But w w S := ⟨rfl, rfl, rfl, Nat.le_refl _, fun _ _ _ => rfl⟩
theorem But.trans {a b c : World} {S : Nat → Prop} (h : But a b S) (k : But b c S) : But a c S :=
  ⟨k.os.trans h.os, k.tape.trans h.tape, k.output.trans h.output, Nat.le_trans h.size k.size, fun i hi hs => (k.block i (Nat.lt_of_lt_of_le hi h.size) hs).trans (h.block i hi hs)⟩
theorem But.ofBelow {a b : World} {S : Nat → Prop} (h : Below a.heap.size a b) : But a b S := ⟨h.os, h.tape, h.output, h.size, fun k hk _ => h.block k hk⟩
theorem But.alloc (w : World) (o : Obj) (S : Nat → Prop) : But w (w.alloc o) S := .ofBelow ((Below.refl _ _).alloc (Nat.le_refl _) _)
theorem But.setCell (w : World) (a : Addr) (v : Value) {S : Nat → Prop} (h : S a.block) : But w (w.setCell a v) S :=
  ⟨rfl, rfl, rfl, by simp [World.setCell], fun k _ hs => heap_setCell_other w a k v (fun e => hs (e ▸ h))⟩
theorem But.ofGrown {a b : World} {L : Nat} {S : Nat → Prop} (h : a.grownBy b (some L)) (hL : S L) : But a b S :=
  ⟨h.os, h.tape, h.output, h.size, fun k hk hs => h.block k hk (fun e => hs (by injection e with e; exact e ▸ hL))⟩
theorem But.cell {w w' : World} {S : Nat → Prop} (h : But w w' S) {p : Addr} (hp : p.block < w.heap.size) (hs : ¬ S p.block) : w'.cell? p = w.cell? p := World.cell?_of_block (w := w) (h.block _ hp hs)
theorem But.frozen {w w' : World} {S : Nat → Prop} (h : But w w' S) {p : Addr} (hp : p.block < w.heap.size) (hs : ¬ S p.block) : w'.frozen? p = w.frozen? p := World.frozen?_of_block (w := w) (h.block _ hp hs)

/-- What the elements are behind 'inConflict'. -/
def marked (f : Int) (c : Nat → List Value) (i : Nat) : List Value := if (i : Int) = f then (c i).set 19 (.bool true) else c i

/-- The Node in block N as 'inConflict' meets it: its lock free, its names those of block B, its function 'fn'; nothing of the two blocks frozen. -/
structure NodeAt (w : World) (N B n : Nat) (fn : Value) : Prop where
  lt : B < N
  size : N < w.heap.size
  mu : w.cell? ⟨N, 27, none⟩ = some (.int .i32 0)
  names : w.cell? ⟨N, 29, none⟩ = some (.slice (some ⟨B, 0, none⟩) n n)
  fn : w.cell? ⟨N, 31, none⟩ = some fn
  fzN : ∀ o, w.frozen? ⟨N, o, none⟩ = false
  fzB : ∀ o, w.frozen? ⟨B, o, none⟩ = false

theorem marked_len {f : Int} {c : Nat → List Value} {i : Nat} (h : (c i).length = 22) : (marked f c i).length = 22 := by
  unfold marked; split <;> simp [h]

theorem elems_same {w : World} {B n : Nat} {c : Nat → List Value} (h : Elems w B 0 n c) : Elems w B 0 n (marked (-1) c) := by
  have e : marked (-1) c = c := by funext i; unfold marked; rw [if_neg (by omega)]
  rw [e]; exact h

theorem elems_mark {w : World} {B n k : Nat} {c : Nat → List Value} (h : Elems w B 0 n c) (hk : k < n) (o : Nat) (ho : o = k * 22 + 19) : Elems (w.setCell ⟨B, o, none⟩ (.bool true)) B 0 n (marked k c) := by
  subst ho
  refine ⟨fun i hi => marked_len (h.len i hi), fun i hi j v hj => ?_⟩
  have hl := h.len i hi
  have hj22 : j < 22 := by
    have := (List.getElem?_eq_some_iff.1 hj).1
    rw [marked_len hl] at this; exact this
  by_cases e : i = k ∧ j = 19
  · obtain ⟨rfl, rfl⟩ := e
    have hv : v = .bool true := by
      unfold marked at hj
      rw [if_pos rfl, List.getElem?_set_self (by omega)] at hj
      exact (Option.some.inj hj).symm
    subst hv
    have := h.at_ i hi 19 ((c i)[19]'(by omega)) (List.getElem?_eq_getElem (by omega))
    rw [Nat.zero_add] at this ⊢
    exact World.cell?_setCell_same _ _ _ this
  · rw [World.cell?_setCell_other _ _ _ _ (by intro e0; injection e0 with e1 e2; omega)]
    refine h.at_ i hi j v ?_
    unfold marked at hj
    split at hj
    · rename_i hik
      have hik' : i = k := by omega
      rw [List.getElem?_set_ne (by intro e19; exact e ⟨hik', e19.symm⟩)] at hj
      exact hj
    · exact hj

theorem neq_nilFunc (w : World) : (binOp .neq 73 .nilFunc .nilFunc).run Yba.prog w = .ok (.bool false) w := by
  kernel_rfl
theorem neq_func (w : World) (f : Fn) (a b : Array Value) : (binOp .neq 73 (.func f a b) .nilFunc).run Yba.prog w = .ok (.bool true) w := by
  kernel_rfl

theorem cell_setCell_ne {w : World} {a b : Addr} {v u : Value} (h : w.cell? b = some u) (hne : a ≠ b) : (w.setCell a v).cell? b = some u := (World.cell?_setCell_other _ _ _ _ hne).trans h


set_option maxRecDepth 100000 in
set_option maxHeartbeats 800000 in
theorem conf_nil (N B n : Nat) (c : Nat → List Value) (nm : List Value) (hit : Nat → Bool) (w : World) (hn : nm.length = 16) (hnl : n ≤ 1024) (hN : NodeAt w N B n .nilFunc) (he : Elems w B 0 n c) (hr : ∀ i, i < n → Eq26 ((c i).take 16) nm (hit i)) :
    Calls Yba.prog 9 #[.pointer (some ⟨N, 0, none⟩), .agg nm.toArray] w fun e w' => e = .returned (.tuple #[]) ∧ But w w' (fun k => k = N ∨ k = B) ∧ w'.cell? ⟨N, 29, none⟩ = some (.slice (some ⟨B, 0, none⟩) n n) ∧ Elems w' B 0 n (marked (firstOf hit n) c) := by
  have H2 : Hid ((Yba.prog.info? 26).map (·.size) = some nm.toArray.size) := by show _ = _; rw [info26]; simp [hn]
  have HE : Hid (Elems w B 0 n c) := he
  have HR : Hid (∀ i, i < n → Eq26 ((c i).take 16) nm (hit i)) := hr
  have HN : Hid (nm.length = 16) := hn
  have HX : Hid (NodeAt w N B n .nilFunc) := hN
  have hs := hN.size
  have hlt := hN.lt
  clear hr he hn hN
  have qn := neq_nilFunc
  have qf := neq_func
  go_enter Yba.func9, Yba.ntmps9
  go_wp2_with fail
  refine (MuLone.lock_free muLib ⟨N, 27, none⟩ _ ?hc ?hz).mono ?_
  case hc => exact (World.cell?_alloc_lt _ _ _ hs).trans HX.out.mu
  case hz => exact (((Below.refl _ w).alloc (Nat.le_refl _) _).frozen hs).trans (HX.out.fzN _)
  rintro e w2 ⟨rfl, hw2⟩
  have hs2 : w2.heap.size = w.heap.size + 1 := by rw [hw2]; simp [World.setCell]
  have HA2 : Hid (At w2 w.heap.size 0 nm) := by
    show At _ _ _ _
    rw [hw2]
    exact (At.ofHeap (cs := nm.toArray) (heap_alloc_new w _)).setOther _ _ (by simp; omega)
  have HB2 : Hid (But w w2 (fun k => k = N ∨ k = B)) := by
    show But _ _ _
    rw [hw2]
    exact (But.alloc w _ _).trans (But.setCell _ _ _ (.inl rfl))
  have ha : ∀ o u, w.cell? ⟨N, o, none⟩ = some u → (w.alloc (.cells nm.toArray 26)).cell? ⟨N, o, none⟩ = some u := fun o u h => (World.cell?_alloc_lt _ _ _ hs).trans h
  have HC : Hid (w2.cell? ⟨N, 27, none⟩ = some (.int .i32 1) ∧ w2.cell? ⟨N, 29, none⟩ = some (.slice (some ⟨B, 0, none⟩) n n) ∧ w2.cell? ⟨N, 31, none⟩ = some .nilFunc) := by
    show _ ∧ _ ∧ _
    rw [hw2]
    exact ⟨World.cell?_setCell_same _ _ _ (ha _ _ HX.out.mu), cell_setCell_ne (ha _ _ HX.out.names) (by simp), cell_setCell_ne (ha _ _ HX.out.fn) (by simp)⟩
  have HF : Hid ((∀ o, w2.frozen? ⟨N, o, none⟩ = false) ∧ ∀ o, w2.frozen? ⟨B, o, none⟩ = false) := by
    show _ ∧ _
    rw [hw2]
    refine ⟨fun o => ?_, fun o => ?_⟩
    · rw [World.frozen?_setCell]; exact (((Below.refl _ w).alloc (Nat.le_refl _) _).frozen hs).trans (HX.out.fzN _)
    · rw [World.frozen?_setCell]; exact (((Below.refl _ w).alloc (Nat.le_refl _) _).frozen (by show B < _; omega)).trans (HX.out.fzB _)
  have HE2 : Hid (Elems w2 B 0 n c) := ⟨HE.out.len, fun i hi => by rw [hw2]; exact ((HE.out.at_ i hi).alloc _ (by omega)).setOther _ _ (by show B ≠ N; omega)⟩
  clear hw2 ha
  go_wp2_with (first
    | (refine wpList_load_at rfl 26 _ rfl w.heap.size 0 nm.toArray rfl _ Yba.underlying26 rfl H2.out HA2.out ?_)
    | fail)
  refine (holds11 N B 0 n n c nm hit w2 HN.out (by omega) (by omega) hnl HC.out.2.1 HE2.out HR.out).mono ?_
  rintro e w3 ⟨rfl, hb3⟩
  have hc27 : w3.cell? ⟨N, 27, none⟩ = some (.int .i32 1) := (hb3.cell (by show N < _; omega)).trans HC.out.1
  have hc29 : w3.cell? ⟨N, 29, none⟩ = some (.slice (some ⟨B, 0, none⟩) n n) := (hb3.cell (by show N < _; omega)).trans HC.out.2.1
  have hc31 : w3.cell? ⟨N, 31, none⟩ = some .nilFunc := (hb3.cell (by show N < _; omega)).trans HC.out.2.2
  have hfN : ∀ o, w3.frozen? ⟨N, o, none⟩ = false := fun o => (hb3.frozen (by show N < _; omega)).trans (HF.out.1 o)
  have hfB : ∀ o, w3.frozen? ⟨B, o, none⟩ = false := fun o => (hb3.frozen (by show B < _; omega)).trans (HF.out.2 o)
  have HE3 : Hid (Elems w3 B 0 n c) := HE2.out.below hb3 (by omega)
  have HB3 : Hid (But w w3 (fun k => k = N ∨ k = B)) := HB2.out.trans (.ofBelow hb3)
  have hs3 : w.heap.size + 1 ≤ w3.heap.size := by have := hb3.size; omega
  have HA3 : Hid (At w3 w.heap.size 0 nm) := HA2.out.below hb3 (by omega)
  clear hb3 HC HF HE2 HB2 HA2 hs2
  rcases firstOf_cases hit n with ⟨hf, _⟩ | ⟨k, hk, hf, _, _⟩
  · have Hf : Hid (firstOf hit n = -1) := hf
    rw [hf]
    clear hf
    go_wp2_with fail
    refine (MuLone.unlock_held muLib ⟨N, 27, none⟩ _ hc27 (hfN _)).mono ?_
    rintro e w5 ⟨rfl, hw5⟩
    have HW5 : Hid (w5 = w3.setCell ⟨N, 27, none⟩ (.int .i32 0)) := hw5
    clear hw5
    go_wp2
    go_end0
    refine ⟨rfl, ?_, ?_, ?_⟩
    · rw [HW5.out]; exact HB3.out.trans (But.setCell _ _ _ (.inl rfl))
    · rw [HW5.out]; exact cell_setCell_ne hc29 (by simp)
    · rw [HW5.out, Hf.out]; exact elems_same ⟨HE3.out.len, fun i hi => (HE3.out.at_ i hi).setOther _ _ (by show B ≠ N; omega)⟩
  · have Hf : Hid (firstOf hit n = (k : Int)) := hf
    rw [hf]
    clear hf
    have hk' : (k : Int) < (n : Int) := by omega
    have hck : w3.cell? ⟨B, k * 22 + 19, none⟩ = some ((c k)[19]'(by have := HE3.out.len k hk; omega)) := by
      have := HE3.out.at_ k hk 19 _ (List.getElem?_eq_getElem (by have := HE3.out.len k hk; omega))
      rwa [Nat.zero_add] at this
    have hne : (⟨B, k * 22 + 19, none⟩ : Addr) ≠ ⟨N, 27, none⟩ := by intro e0; injection e0 with e1 e2; omega
    have hne2 : (⟨B, k * 22 + 19, none⟩ : Addr) ≠ ⟨N, 29, none⟩ := by intro e0; injection e0 with e1 e2; omega
    go_wp2_with fail
    refine (MuLone.unlock_held muLib ⟨N, 27, none⟩ _ (cell_setCell_ne hc27 hne) (by rw [World.frozen?_setCell]; exact hfN _)).mono ?_
    rintro e w5 ⟨rfl, hw5⟩
    have HW5 : Hid (w5 = (w3.setCell ⟨B, k * 22 + 19, none⟩ (.bool true)).setCell ⟨N, 27, none⟩ (.int .i32 0)) := hw5
    clear hw5
    go_wp2
    go_end0
    refine ⟨rfl, ?_, ?_, ?_⟩
    · rw [HW5.out]; exact HB3.out.trans ((But.setCell _ _ _ (.inr rfl)).trans (But.setCell _ _ _ (.inl rfl)))
    · rw [HW5.out]; exact cell_setCell_ne (cell_setCell_ne hc29 hne2) (by simp)
    · rw [HW5.out, Hf.out]
      have he := elems_mark HE3.out hk (k * 22 + 19) rfl
      exact ⟨he.len, fun i hi => (he.at_ i hi).setOther _ _ (by show B ≠ N; omega)⟩

set_option maxRecDepth 100000 in
set_option maxHeartbeats 800000 in
theorem conf_fn (N B n : Nat) (c : Nat → List Value) (nm : List Value) (hit : Nat → Bool) (w : World) (hn : nm.length = 16) (hnl : n ≤ 1024) (L : Nat) (hBL : B < L) (hLN : L < N) (ho : ∀ v ∈ nm, v.oneCell' = true) (hL0 : w.cell? ⟨L, 0, none⟩ = some (.slice none 0 0)) (hLf : w.frozen? ⟨L, 0, none⟩ = false) (hN : NodeAt w N B n (.func (.func 8) #[] #[.pointer (some ⟨L, 0, none⟩)])) (he : Elems w B 0 n c) (hr : ∀ i, i < n → Eq26 ((c i).take 16) nm (hit i)) :
    Calls Yba.prog 9 #[.pointer (some ⟨N, 0, none⟩), .agg nm.toArray] w fun e w' => e = .returned (.tuple #[]) ∧ But w w' (fun k => k = N ∨ k = B ∨ k = L) ∧ w'.cell? ⟨N, 29, none⟩ = some (.slice (some ⟨B, 0, none⟩) n n) ∧ Elems w' B 0 n (marked (firstOf hit n) c) ∧ ∃ g cap, w'.cell? ⟨L, 0, none⟩ = some (.slice (some ⟨g, 0, none⟩) 1 cap) ∧ At w' g 0 nm := by
  have H2 : Hid ((Yba.prog.info? 26).map (·.size) = some nm.toArray.size) := by show _ = _; rw [info26]; simp [hn]
  have HE : Hid (Elems w B 0 n c) := he
  have HR : Hid (∀ i, i < n → Eq26 ((c i).take 16) nm (hit i)) := hr
  have HN : Hid (nm.length = 16) := hn
  have HX : Hid (NodeAt w N B n (.func (.func 8) #[] #[.pointer (some ⟨L, 0, none⟩)])) := hN
  have hs := hN.size
  have hlt := hN.lt
  have HO : Hid (∀ v ∈ nm, v.oneCell' = true) := ho
  have HL0 : Hid (w.cell? ⟨L, 0, none⟩ = some (.slice none 0 0)) := hL0
  have HLf : Hid (w.frozen? ⟨L, 0, none⟩ = false) := hLf
  clear ho hL0 hLf
  clear hr he hn hN
  have qn := neq_nilFunc
  have qf := neq_func
  go_enter Yba.func9, Yba.ntmps9
  go_wp2_with fail
  refine (MuLone.lock_free muLib ⟨N, 27, none⟩ _ ?hc ?hz).mono ?_
  case hc => exact (World.cell?_alloc_lt _ _ _ hs).trans HX.out.mu
  case hz => exact (((Below.refl _ w).alloc (Nat.le_refl _) _).frozen hs).trans (HX.out.fzN _)
  rintro e w2 ⟨rfl, hw2⟩
  have hs2 : w2.heap.size = w.heap.size + 1 := by rw [hw2]; simp [World.setCell]
  have HA2 : Hid (At w2 w.heap.size 0 nm) := by
    show At _ _ _ _
    rw [hw2]
    exact (At.ofHeap (cs := nm.toArray) (heap_alloc_new w _)).setOther _ _ (by simp; omega)
  have HB2 : Hid (But w w2 (fun k => k = N ∨ k = B ∨ k = L)) := by
    show But _ _ _
    rw [hw2]
    exact (But.alloc w _ _).trans (But.setCell _ _ _ (.inl rfl))
  have ha : ∀ o u, w.cell? ⟨N, o, none⟩ = some u → (w.alloc (.cells nm.toArray 26)).cell? ⟨N, o, none⟩ = some u := fun o u h => (World.cell?_alloc_lt _ _ _ hs).trans h
  have HC : Hid (w2.cell? ⟨N, 27, none⟩ = some (.int .i32 1) ∧ w2.cell? ⟨N, 29, none⟩ = some (.slice (some ⟨B, 0, none⟩) n n) ∧ w2.cell? ⟨N, 31, none⟩ = some (.func (.func 8) #[] #[.pointer (some ⟨L, 0, none⟩)])) := by
    show _ ∧ _ ∧ _
    rw [hw2]
    exact ⟨World.cell?_setCell_same _ _ _ (ha _ _ HX.out.mu), cell_setCell_ne (ha _ _ HX.out.names) (by simp), cell_setCell_ne (ha _ _ HX.out.fn) (by simp)⟩
  have HF : Hid ((∀ o, w2.frozen? ⟨N, o, none⟩ = false) ∧ ∀ o, w2.frozen? ⟨B, o, none⟩ = false) := by
    show _ ∧ _
    rw [hw2]
    refine ⟨fun o => ?_, fun o => ?_⟩
    · rw [World.frozen?_setCell]; exact (((Below.refl _ w).alloc (Nat.le_refl _) _).frozen hs).trans (HX.out.fzN _)
    · rw [World.frozen?_setCell]; exact (((Below.refl _ w).alloc (Nat.le_refl _) _).frozen (by show B < _; omega)).trans (HX.out.fzB _)
  have HE2 : Hid (Elems w2 B 0 n c) := ⟨HE.out.len, fun i hi => by rw [hw2]; exact ((HE.out.at_ i hi).alloc _ (by omega)).setOther _ _ (by show B ≠ N; omega)⟩
  have HLc2 : Hid (w2.cell? ⟨L, 0, none⟩ = w.cell? ⟨L, 0, none⟩) := by
    show _ = _
    rw [hw2, World.cell?_setCell_other _ _ _ _ (by intro e0; injection e0 with e1 e2; omega)]
    exact World.cell?_alloc_lt _ _ _ (by show L < _; omega)
  have HLf2 : Hid (w2.frozen? ⟨L, 0, none⟩ = w.frozen? ⟨L, 0, none⟩) := by
    show _ = _
    rw [hw2, World.frozen?_setCell]
    exact ((Below.refl _ w).alloc (Nat.le_refl _) _).frozen (by show L < _; omega)
  clear hw2 ha
  go_wp2_with (first
    | (refine wpList_load_at rfl 26 _ rfl w.heap.size 0 nm.toArray rfl _ Yba.underlying26 rfl H2.out HA2.out ?_)
    | fail)
  refine (holds11 N B 0 n n c nm hit w2 HN.out (by omega) (by omega) hnl HC.out.2.1 HE2.out HR.out).mono ?_
  rintro e w3 ⟨rfl, hb3⟩
  have hc27 : w3.cell? ⟨N, 27, none⟩ = some (.int .i32 1) := (hb3.cell (by show N < _; omega)).trans HC.out.1
  have hc29 : w3.cell? ⟨N, 29, none⟩ = some (.slice (some ⟨B, 0, none⟩) n n) := (hb3.cell (by show N < _; omega)).trans HC.out.2.1
  have hc31 : w3.cell? ⟨N, 31, none⟩ = some (.func (.func 8) #[] #[.pointer (some ⟨L, 0, none⟩)]) := (hb3.cell (by show N < _; omega)).trans HC.out.2.2
  have hfN : ∀ o, w3.frozen? ⟨N, o, none⟩ = false := fun o => (hb3.frozen (by show N < _; omega)).trans (HF.out.1 o)
  have hfB : ∀ o, w3.frozen? ⟨B, o, none⟩ = false := fun o => (hb3.frozen (by show B < _; omega)).trans (HF.out.2 o)
  have HE3 : Hid (Elems w3 B 0 n c) := HE2.out.below hb3 (by omega)
  have HB3 : Hid (But w w3 (fun k => k = N ∨ k = B ∨ k = L)) := HB2.out.trans (.ofBelow hb3)
  have hs3 : w.heap.size + 1 ≤ w3.heap.size := by have := hb3.size; omega
  have HA3 : Hid (At w3 w.heap.size 0 nm) := HA2.out.below hb3 (by omega)
  have HLc3 : Hid (w3.cell? ⟨L, 0, none⟩ = w.cell? ⟨L, 0, none⟩) := (hb3.cell (by show L < _; omega)).trans HLc2.out
  have HLf3 : Hid (w3.frozen? ⟨L, 0, none⟩ = w.frozen? ⟨L, 0, none⟩) := (hb3.frozen (by show L < _; omega)).trans HLf2.out
  clear hb3 HC HF HE2 HB2 HA2 hs2 HLc2 HLf2
  rcases firstOf_cases hit n with ⟨hf, _⟩ | ⟨k, hk, hf, _, _⟩
  · have Hf : Hid (firstOf hit n = -1) := hf
    rw [hf]
    clear hf
    go_wp2_with fail
    refine (MuLone.unlock_held muLib ⟨N, 27, none⟩ _ hc27 (hfN _)).mono ?_
    rintro e w5 ⟨rfl, hw5⟩
    have HW5 : Hid (w5 = w3.setCell ⟨N, 27, none⟩ (.int .i32 0)) := hw5
    clear hw5
    have HA5 : Hid (At w5 w.heap.size 0 nm) := by
      show At _ _ _ _
      rw [HW5.out]
      exact HA3.out.setOther _ _ (by show w.heap.size ≠ N; omega)
    have HL5 : Hid (w5.cell? ⟨L, 0, none⟩ = some (.slice none 0 0) ∧ w5.frozen? ⟨L, 0, none⟩ = false) := by
      show _ ∧ _
      rw [HW5.out]
      exact ⟨cell_setCell_ne (HLc3.out.trans HL0.out) (by intro e0; injection e0 with e1 e2; omega), by rw [World.frozen?_setCell]; exact HLf3.out.trans HLf.out⟩
    have HB5 : Hid (But w w5 (fun k => k = N ∨ k = B ∨ k = L)) := by
      show But _ _ _
      rw [HW5.out]
      exact HB3.out.trans (But.setCell _ _ _ (.inl rfl))
    have hs5 : L < w5.heap.size := by have := HB5.out.size; omega
    have hc5 : Hid (w5.cell? ⟨N, 29, none⟩ = some (.slice (some ⟨B, 0, none⟩) n n)) := by
      show _ = _
      rw [HW5.out]
      exact cell_setCell_ne hc29 (by simp)
    have HE5 : Hid (Elems w5 B 0 n (marked (firstOf hit n) c)) := by
      show Elems _ _ _ _ _
      rw [HW5.out, Hf.out]
      exact elems_same ⟨HE3.out.len, fun i hi => (HE3.out.at_ i hi).setOther _ _ (by show B ≠ N; omega)⟩
    have hBs : B < w5.heap.size := by omega
    have hNs : N < w5.heap.size := by have := HB5.out.size; omega
    clear HW5 hc27 hc29 hc31 hfN hfB HB3 HA3
    go_wp2_with (first
      | (refine wpList_load_at rfl 26 _ rfl w.heap.size 0 nm.toArray rfl _ Yba.underlying26 rfl H2.out HA5.out ?_)
      | fail)
    refine (clo8 L nm w5 HN.out HO.out hs5 HL5.out.1 HL5.out.2).mono ?_
    rintro e w6 ⟨rfl, hg6, g, cap, hcL, hat⟩
    have HG6 : Hid (w5.grownBy w6 (some L)) := hg6
    have HL6 : Hid (w6.cell? ⟨L, 0, none⟩ = some (.slice (some ⟨g, 0, none⟩) 1 cap) ∧ At w6 g 0 nm) := ⟨hcL, hat⟩
    clear hg6 hcL hat
    go_wp2
    go_end0
    refine ⟨rfl, HB5.out.trans (.ofGrown HG6.out (.inr (.inr rfl))), ?_, ?_, g, cap, HL6.out.1, HL6.out.2⟩
    · exact (World.cell?_of_block (w := w5) (HG6.out.block N hNs (by simp; omega))).trans hc5.out
    · exact ⟨HE5.out.len, fun i hi => (HE5.out.at_ i hi).block (HG6.out.block B hBs (by simp; omega))⟩
  · have Hf : Hid (firstOf hit n = (k : Int)) := hf
    rw [hf]
    clear hf
    have hk' : (k : Int) < (n : Int) := by omega
    have hck : w3.cell? ⟨B, k * 22 + 19, none⟩ = some ((c k)[19]'(by have := HE3.out.len k hk; omega)) := by
      have := HE3.out.at_ k hk 19 _ (List.getElem?_eq_getElem (by have := HE3.out.len k hk; omega))
      rwa [Nat.zero_add] at this
    have hne : (⟨B, k * 22 + 19, none⟩ : Addr) ≠ ⟨N, 27, none⟩ := by intro e0; injection e0 with e1 e2; omega
    have hne2 : (⟨B, k * 22 + 19, none⟩ : Addr) ≠ ⟨N, 29, none⟩ := by intro e0; injection e0 with e1 e2; omega
    go_wp2_with fail
    refine (MuLone.unlock_held muLib ⟨N, 27, none⟩ _ (cell_setCell_ne hc27 hne) (by rw [World.frozen?_setCell]; exact hfN _)).mono ?_
    rintro e w5 ⟨rfl, hw5⟩
    have HW5 : Hid (w5 = (w3.setCell ⟨B, k * 22 + 19, none⟩ (.bool true)).setCell ⟨N, 27, none⟩ (.int .i32 0)) := hw5
    clear hw5
    have HA5 : Hid (At w5 w.heap.size 0 nm) := by
      show At _ _ _ _
      rw [HW5.out]
      exact (HA3.out.setOther _ _ (by show w.heap.size ≠ B; omega)).setOther _ _ (by show w.heap.size ≠ N; omega)
    have HL5 : Hid (w5.cell? ⟨L, 0, none⟩ = some (.slice none 0 0) ∧ w5.frozen? ⟨L, 0, none⟩ = false) := by
      show _ ∧ _
      rw [HW5.out]
      exact ⟨cell_setCell_ne (cell_setCell_ne (HLc3.out.trans HL0.out) (by intro e0; injection e0 with e1 e2; omega)) (by intro e0; injection e0 with e1 e2; omega), by rw [World.frozen?_setCell, World.frozen?_setCell]; exact HLf3.out.trans HLf.out⟩
    have HB5 : Hid (But w w5 (fun k => k = N ∨ k = B ∨ k = L)) := by
      show But _ _ _
      rw [HW5.out]
      exact HB3.out.trans ((But.setCell _ _ _ (.inr (.inl rfl))).trans (But.setCell _ _ _ (.inl rfl)))
    have hs5 : L < w5.heap.size := by have := HB5.out.size; omega
    have hc5 : Hid (w5.cell? ⟨N, 29, none⟩ = some (.slice (some ⟨B, 0, none⟩) n n)) := by
      show _ = _
      rw [HW5.out]
      exact cell_setCell_ne (cell_setCell_ne hc29 hne2) (by simp)
    have HE5 : Hid (Elems w5 B 0 n (marked (firstOf hit n) c)) := by
      show Elems _ _ _ _ _
      rw [HW5.out, Hf.out]
      have he := elems_mark HE3.out hk (k * 22 + 19) rfl
      exact ⟨he.len, fun i hi => (he.at_ i hi).setOther _ _ (by show B ≠ N; omega)⟩
    have hBs : B < w5.heap.size := by omega
    have hNs : N < w5.heap.size := by have := HB5.out.size; omega
    clear HW5 hc27 hc29 hc31 hfN hfB HB3 HA3
    go_wp2_with (first
      | (refine wpList_load_at rfl 26 _ rfl w.heap.size 0 nm.toArray rfl _ Yba.underlying26 rfl H2.out HA5.out ?_)
      | fail)
    refine (clo8 L nm w5 HN.out HO.out hs5 HL5.out.1 HL5.out.2).mono ?_
    rintro e w6 ⟨rfl, hg6, g, cap, hcL, hat⟩
    have HG6 : Hid (w5.grownBy w6 (some L)) := hg6
    have HL6 : Hid (w6.cell? ⟨L, 0, none⟩ = some (.slice (some ⟨g, 0, none⟩) 1 cap) ∧ At w6 g 0 nm) := ⟨hcL, hat⟩
    clear hg6 hcL hat
    go_wp2
    go_end0
    refine ⟨rfl, HB5.out.trans (.ofGrown HG6.out (.inr (.inr rfl))), ?_, ?_, g, cap, HL6.out.1, HL6.out.2⟩
    · exact (World.cell?_of_block (w := w5) (HG6.out.block N hNs (by simp; omega))).trans hc5.out
    · exact ⟨HE5.out.len, fun i hi => (HE5.out.at_ i hi).block (HG6.out.block B hBs (by simp; omega))⟩
end Go.Proofs.Ybulkaisy.CWalk
