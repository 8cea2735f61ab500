/-
  What a NodeName and a Name that were read look like, and what '==' and '!=' give on them.
-/
import Derived.Test.YbulkaisyCWalk4
import Derived.Deep.Slices
namespace Go.Proofs.Ybulkaisy.CWalk
open Go.RowKit CKit
set_option linter.unusedVariables false

theorem cells5 : Yba.prog.cellsOf 5 = 1 := by kernel_rfl
theorem cells26 : Yba.prog.cellsOf 26 = 16 := by kernel_rfl
theorem cells36 : Yba.prog.cellsOf 36 = 22 := by kernel_rfl
theorem cells4 : Yba.prog.cellsOf 4 = 1 := by kernel_rfl
theorem cells34 : Yba.prog.cellsOf 34 = 1 := by kernel_rfl

/-- A byte, well formed. -/
def IsByte (v : Value) : Prop := ∃ n, v = .int .u8 n ∧ (Lit.int .u8 n).wf = true
def IsBool (v : Value) : Prop := ∃ b, v = .bool b

theorem lits_int {d : Nat} {t : TypeId} {cs : List Value} {l : List Lit} (hu : Yba.prog.underlying t = some (.int .u8)) (h : Yba.prog.keyLits d t cs = some l) : ∃ v, cs = [v] ∧ IsByte v := by
  obtain ⟨n, rfl, rfl⟩ := keyLits_int' hu h
  refine ⟨_, rfl, n, rfl, ?_⟩
  cases d with
  | zero => simp [Program.keyLits] at h
  | succ d => simpa [Program.keyLits, hu] using h
theorem int_lits {d : Nat} {t : TypeId} {v : Value} (hu : Yba.prog.underlying t = some (.int .u8)) (h : IsByte v) : ∃ l, Yba.prog.keyLits (d + 1) t [v] = some l := by
  obtain ⟨n, rfl, hw⟩ := h
  exact ⟨[.int .u8 n], by simp [Program.keyLits, hu, hw]⟩
theorem lits_bool {d : Nat} {t : TypeId} {cs : List Value} {l : List Lit} (hu : Yba.prog.underlying t = some .bool) (h : Yba.prog.keyLits d t cs = some l) : ∃ v, cs = [v] ∧ IsBool v := by
  obtain ⟨b, rfl, rfl⟩ := keyLits_bool' hu h
  exact ⟨_, rfl, b, rfl⟩
theorem bool_lits {d : Nat} {t : TypeId} {v : Value} (hu : Yba.prog.underlying t = some .bool) (h : IsBool v) : ∃ l, Yba.prog.keyLits (d + 1) t [v] = some l := by
  obtain ⟨b, rfl⟩ := h
  exact ⟨[.bool b], by simp [Program.keyLits, hu]⟩

theorem mapM_all {α β : Type} {f : α → Option β} : ∀ (l : List α), (∀ x ∈ l, ∃ y, f x = some y) → ∃ ys, l.mapM f = some ys
  | [], _ => ⟨[], by simp⟩
  | x :: l, h => by
    obtain ⟨y, hy⟩ := h x (by simp)
    obtain ⟨ys, hys⟩ := mapM_all l (fun z hz => h z (by simp [hz]))
    exact ⟨y :: ys, by simp [List.mapM_cons, hy, hys]⟩
theorem mapM_each {α β : Type} {f : α → Option β} : ∀ (l : List α) (ys : List β), l.mapM f = some ys → ∀ x ∈ l, ∃ y, f x = some y
  | [], _, _ => by simp
  | a :: l, ys, h => by
    rw [List.mapM_cons] at h
    simp only [bind, Option.bind_eq_some_iff, pure, Option.some.injEq] at h
    obtain ⟨y, hy, zs, hzs, _⟩ := h
    intro x hx
    rcases List.mem_cons.1 hx with rfl | hx
    · exact ⟨y, hy⟩
    · exact mapM_each l zs hzs x hx

theorem one_of (cs : List Value) (i : Nat) (v : Value) : (cs.drop i).take 1 = [v] ↔ cs[i]? = some v := by
  by_cases h : i < cs.length
  · rw [List.drop_eq_getElem_cons h, List.getElem?_eq_getElem h, List.take_succ_cons, List.take_zero]; simp only [List.cons.injEq, and_true, Option.some.injEq]
  · rw [List.drop_eq_nil_of_le (by omega), List.getElem?_eq_none (by omega)]; simp

/-- A Name: sixteen bytes. -/
structure Shape26 (cs : List Value) : Prop where
  len : cs.length = 16
  byte : ∀ (i : Nat) (v : Value), cs[i]? = some v → IsByte v

/-- A NodeName: a Name, a bool, a byte, four bools. -/
structure Shape36 (cs : List Value) : Prop where
  len : cs.length = 22
  byte : ∀ (i : Nat) (v : Value), i < 16 ∨ i = 17 → cs[i]? = some v → IsByte v
  bool : ∀ (i : Nat) (v : Value), ¬ (i < 16 ∨ i = 17) → cs[i]? = some v → IsBool v

theorem shape26_of {d : Nat} {cs : List Value} {l : List Lit} (h : Yba.prog.keyLits (d + 1) 26 cs = some l) : Shape26 cs := by
  unfold Program.keyLits at h
  simp only [Yba.underlying26, cells26, cells5] at h
  split at h
  · rename_i hlen
    rw [Option.map_eq_some_iff] at h
    obtain ⟨ys, hys, _⟩ := h
    refine ⟨hlen, fun i v hv => ?_⟩
    have hi : i < 16 := by have := (List.getElem?_eq_some_iff.1 hv).1; omega
    obtain ⟨y, hy⟩ := mapM_each _ _ hys i (by simpa using hi)
    obtain ⟨u, hu, hb⟩ := lits_int Yba.underlying5 hy
    rw [Nat.mul_one, one_of, hv] at hu
    cases hu
    exact hb
  · cases h

theorem lits26 {d : Nat} {cs : List Value} (h : Shape26 cs) : ∃ l, Yba.prog.keyLits (d + 2) 26 cs = some l := by
  unfold Program.keyLits
  simp only [Yba.underlying26, cells26, cells5, h.len, if_true]
  obtain ⟨ys, hys⟩ := mapM_all (f := fun i => Yba.prog.keyLits (d + 1) 5 ((cs.drop (i * 1)).take 1)) (List.range 16) (fun i hi => by
    have hi' : i < cs.length := by rw [h.len]; simpa using hi
    have hv := List.getElem?_eq_getElem hi'
    rw [Nat.mul_one, (one_of cs i _).2 hv]
    exact int_lits Yba.underlying5 (h.byte i _ hv))
  exact ⟨_, by rw [hys]; rfl⟩

theorem shape36_of {d : Nat} {cs : List Value} {l : List Lit} (h : Yba.prog.keyLits (d + 2) 36 cs = some l) : Shape36 cs := by
  unfold Program.keyLits at h
  simp only [Yba.underlying36, cells36] at h
  split at h
  · rename_i hlen
    obtain ⟨hlen, _⟩ := hlen
    rw [Option.map_eq_some_iff] at h
    obtain ⟨ys, hys, _⟩ := h
    have e := mapM_each _ _ hys
    simp only [List.mem_cons, List.not_mem_nil, or_false, forall_eq_or_imp, forall_eq, cells26, cells4, cells34] at e
    obtain ⟨⟨y0, e0⟩, ⟨y1, e1⟩, ⟨y2, e2⟩, ⟨y3, e3⟩, ⟨y4, e4⟩, ⟨y5, e5⟩, ⟨y6, e6⟩⟩ := e
    have s0 := shape26_of e0
    obtain ⟨u1, h1, b1⟩ := lits_bool Yba.underlying4 e1
    obtain ⟨u2, h2, b2⟩ := lits_int Yba.underlying34 e2
    obtain ⟨u3, h3, b3⟩ := lits_bool Yba.underlying4 e3
    obtain ⟨u4, h4, b4⟩ := lits_bool Yba.underlying4 e4
    obtain ⟨u5, h5, b5⟩ := lits_bool Yba.underlying4 e5
    obtain ⟨u6, h6, b6⟩ := lits_bool Yba.underlying4 e6
    rw [one_of] at h1 h2 h3 h4 h5 h6
    refine ⟨hlen, fun i v hi hv => ?_, fun i v hi hv => ?_⟩
    · rcases hi with hi | rfl
      · refine s0.byte i v ?_
        rw [List.drop_zero, List.getElem?_take, if_pos hi]
        exact hv
      · rw [h2] at hv; cases hv; exact b2
    · have : i < 22 := by have := (List.getElem?_eq_some_iff.1 hv).1; omega
      have hc : i = 16 ∨ i = 18 ∨ i = 19 ∨ i = 20 ∨ i = 21 := by omega
      rcases hc with rfl | rfl | rfl | rfl | rfl
      · rw [h1] at hv; cases hv; exact b1
      · rw [h3] at hv; cases hv; exact b3
      · rw [h4] at hv; cases hv; exact b4
      · rw [h5] at hv; cases hv; exact b5
      · rw [h6] at hv; cases hv; exact b6
  · cases h

theorem Shape36.name {cs : List Value} (h : Shape36 cs) : Shape26 (cs.take 16) :=
  ⟨by simp [h.len], fun i v hv => by
    rw [List.getElem?_take] at hv
    split at hv
    · exact h.byte i v (.inl ‹_›) hv
    · cases hv⟩

theorem Shape36.mark {cs : List Value} (h : Shape36 cs) : Shape36 (cs.set 19 (.bool true)) := by
  refine ⟨by simp [h.len], fun i v hi hv => ?_, fun i v hi hv => ?_⟩
  · rw [List.getElem?_set_ne (by omega)] at hv
    exact h.byte i v hi hv
  · by_cases e : i = 19
    · subst e
      rw [List.getElem?_set_self (by rw [h.len]; omega)] at hv
      cases hv
      exact ⟨true, rfl⟩
    · rw [List.getElem?_set_ne (by omega)] at hv
      exact h.bool i v hi hv

set_option maxRecDepth 20000 in
theorem lits36 {cs : List Value} (h : Shape36 cs) : ∃ l, Yba.prog.keyLits 4 36 cs = some l := by
  have get : ∀ i, i < 22 → ∃ v, cs[i]? = some v := fun i hi => ⟨_, List.getElem?_eq_getElem (by rw [h.len]; exact hi)⟩
  have bl : ∀ i, i < 22 → ¬ (i < 16 ∨ i = 17) → ∃ l, Yba.prog.keyLits 3 4 ((cs.drop i).take 1) = some l := fun i hi hn => by
    obtain ⟨v, hv⟩ := get i hi
    rw [(one_of cs i v).2 hv]
    exact bool_lits Yba.underlying4 (h.bool i v hn hv)
  unfold Program.keyLits
  simp only [Yba.underlying36, cells36]
  rw [if_pos ⟨h.len, by kernel_rfl⟩]
  obtain ⟨l0, e0⟩ := lits26 (d := 1) h.name
  obtain ⟨l1, e1⟩ := bl 16 (by omega) (by omega)
  obtain ⟨l3, e3⟩ := bl 18 (by omega) (by omega)
  obtain ⟨l4, e4⟩ := bl 19 (by omega) (by omega)
  obtain ⟨l5, e5⟩ := bl 20 (by omega) (by omega)
  obtain ⟨l6, e6⟩ := bl 21 (by omega) (by omega)
  obtain ⟨l2, e2⟩ : ∃ l, Yba.prog.keyLits 3 34 ((cs.drop 17).take 1) = some l := by
    obtain ⟨v, hv⟩ := get 17 (by omega)
    rw [(one_of cs 17 v).2 hv]
    exact int_lits Yba.underlying34 (h.byte 17 v (.inr rfl) hv)
  refine ⟨[l0, l1, l2, l3, l4, l5, l6].flatten, ?_⟩
  simp only [List.mapM_cons, List.mapM_nil, cells26, cells4, cells34, List.drop_zero, e0, e1, e2, e3, e4, e5, e6]
  rfl

theorem IsByte.one {v : Value} (h : IsByte v) : v.oneCell' = true := by obtain ⟨n, rfl, _⟩ := h; rfl
theorem IsBool.one {v : Value} (h : IsBool v) : v.oneCell' = true := by obtain ⟨n, rfl⟩ := h; rfl
theorem Shape26.one {cs : List Value} (h : Shape26 cs) : ∀ v ∈ cs, v.oneCell' = true := fun v hv => by
  obtain ⟨i, hi, rfl⟩ := List.mem_iff_getElem.1 hv
  exact (h.byte i _ (List.getElem?_eq_getElem hi)).one
theorem Shape36.one {cs : List Value} (h : Shape36 cs) : ∀ v ∈ cs, v.oneCell' = true := fun v hv => by
  obtain ⟨i, hi, rfl⟩ := List.mem_iff_getElem.1 hv
  by_cases e : i < 16 ∨ i = 17
  · exact (h.byte i _ e (List.getElem?_eq_getElem hi)).one
  · exact (h.bool i _ e (List.getElem?_eq_getElem hi)).one

theorem formed26 {cs : List Value} (h : Shape26 cs) : (Value.agg cs.toArray).formed Yba.prog 26 = true := by
  simp [Value.formed, Yba.underlying26, cells26, h.len]
theorem formed36 {cs : List Value} (h : Shape36 cs) : (Value.agg cs.toArray).formed Yba.prog 36 = true := by
  simp [Value.formed, Yba.underlying36, cells36, h.len]

theorem eq26_some {x y : List Value} (hx : Shape26 x) (hy : Shape26 y) : ∃ r, Eq26 x y r := by
  obtain ⟨lx, ex⟩ := lits26 (d := 2) hx
  obtain ⟨ly, ey⟩ := lits26 (d := 2) hy
  obtain ⟨r, hr, _⟩ := run_eql_key (P := Yba.prog) 26 4 key26 (by omega) x.toArray y.toArray lx ly (formed26 hx) (formed26 hy) (by simpa using ex) (by simpa using ey)
  exact ⟨r, hr⟩
theorem eq26_self {x : List Value} (hx : Shape26 x) : Eq26 x x true := by
  obtain ⟨lx, ex⟩ := lits26 (d := 2) hx
  obtain ⟨r, hr, hs⟩ := run_eql_key (P := Yba.prog) 26 4 key26 (by omega) x.toArray x.toArray lx lx (formed26 hx) (formed26 hx) (by simpa using ex) (by simpa using ex)
  rw [hs rfl] at hr
  exact hr
theorem neq36_self {x : List Value} (hx : Shape36 x) (w : World) : (binOp .neq 36 (.agg x.toArray) (.agg x.toArray)).run Yba.prog w = .ok (.bool false) w := by
  obtain ⟨lx, ex⟩ := lits36 hx
  exact run_neq_same (P := Yba.prog) 36 4 key36 (by omega) x.toArray lx (formed36 hx) (by simpa using ex) w

theorem marked_shape {f : Int} {c : Nat → List Value} {i : Nat} (h : Shape36 (c i)) : Shape36 (marked f c i) := by
  unfold marked
  split
  · exact h.mark
  · exact h

theorem good_of {n : Nat} {c : Nat → List Value} {nm : List Value} (hn : n ≤ 1024) (hc : ∀ i, i < n → Shape36 (c i)) (hm : Shape26 nm) : ∃ hit, Good n c nm hit := by
  obtain ⟨hit, hh⟩ := Deep.choose_lt (α := Bool) (p := fun i r => Eq26 ((c i).take 16) nm r) (fun i hi => eq26_some (hc i hi).name hm)
  exact ⟨hit, hn, hm.len, hm.one, eq26_self hm, fun i hi => (hc i hi).len, fun i hi => (hc i hi).one, hh, fun i hi f w => neq36_self (marked_shape (hc i hi)) w⟩
end Go.Proofs.Ybulkaisy.CWalk
