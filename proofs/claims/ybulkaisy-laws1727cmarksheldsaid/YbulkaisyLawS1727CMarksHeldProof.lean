/-
  THE PROOF OF 'Rows.LawS1727CMarksHeldSaid': the frame after the kit's own (as its tool writes it for a law over slices), the walk out of YbulkaisyCLaw.
-/
import Derived.Test.YbulkaisyRows
import Derived.WalkKit
import Derived.ProofKit
import Derived.OpenShut
import Derived.ShutString
import Derived.ChangeOld
import Derived.Below
import Derived.Test.YbulkaisyCLaw
namespace Go.Proofs.Ybulkaisy.lawS1727CMarksHeld
open Go.ChangeShapes Go.WideShapes Go.ChangeAt Go.RowKit
set_option linter.unusedVariables false

theorem own : ownKnob Yba.prog.godebug = none := by kernel_rfl
theorem laidOut : laidOutB Yba.prog = true := by kernel_rfl

/-- The table as it was read: its elements in memory, each of a NodeName's shape. -/
theorem table_of {H : Type} {enc : TypeId × Value → H} {W : World} {a0 : Option Addr} {len0 cap0 : Nat} {d : DataW H} {p : List MemPlace}
    (h : DataW.Trod enc Yba.prog W 0 (fun _ => true) true 32 (.slice a0 len0 cap0) d p) : ∃ c : Nat → List Value, CWalk.Table W a0 len0 c ∧ ∀ i, i < len0 → CWalk.Shape36 (c i) := by
  obtain ⟨fuel, hf⟩ := h
  rcases Deep.open_slice Yba.underlying32 hf with ⟨hcs, _⟩ | ⟨a, len, cap, m, n, D, Pl, hcs, _, hl, hm, hmm, _, hel⟩
  · simp [Value.cells] at hcs
    obtain ⟨rfl, rfl, rfl⟩ := hcs
    exact ⟨fun _ => [], .inl rfl, fun i hi => absurd hi (Nat.not_lt_zero _)⟩
  · simp [Value.cells] at hcs
    obtain ⟨rfl, rfl, rfl⟩ := hcs
    have hlm : len0 ≤ m := by rw [hmm]; simp only [if_true]; exact hl
    obtain ⟨c, hc⟩ := Deep.choose_lt (α := List Value) (p := fun i cs => W.cells? 0 (a.add (i * Yba.prog.cellsOf 36)) (Yba.prog.cellsOf 36) = some cs ∧ DataW.trod enc Yba.prog W 0 (fun _ => true) true n 36 cs = some (D i, Pl i)) (fun i (hi : i < len0) => hel i (by omega))
    have hsh : ∀ i, i < len0 → CWalk.Shape36 (c i) := fun i hi => CWalk.shape36_of (d := 2) (keyLits_of_trod 4 36 CWalk.key36 n (c i) _ (hc i hi).2).1
    refine ⟨c, ?_, hsh⟩
    by_cases h0 : len0 = 0
    · exact .inl h0
    · have hcell : ∀ i, i < len0 → ∀ j, j < 22 → W.cell? ((a.add (i * 22)).add j) = (c i)[j]? := fun i hi j hj => by
        have := (World.cells?_some (hc i hi).1).2.2 j (by rw [CWalk.cells36]; exact hj)
        rwa [CWalk.cells36] at this
      obtain ⟨b, off, spot⟩ := a
      have h00 : W.cell? (((⟨b, off, spot⟩ : Addr).add (0 * 22)).add 0) = some ((c 0)[0]'(by rw [(hsh 0 (by omega)).len]; omega)) := by
        rw [hcell 0 (by omega) 0 (by omega)]
        exact List.getElem?_eq_getElem _
      have hspot : spot = none := by simpa [Addr.add] using World.cell?_spot h00
      subst hspot
      have hB : b < W.heap.size := by simpa [Addr.add] using block_lt_of_cell h00
      refine .inr ⟨b, off, rfl, hB, ⟨fun i hi => (hsh i hi).len, fun i hi j v hj => ?_⟩⟩
      have hj22 : j < 22 := by have := (List.getElem?_eq_some_iff.1 hj).1; have := (hsh i hi).len; omega
      have := hcell i hi j hj22
      rw [CKit.plainAdd, CKit.plainAdd, hj] at this
      exact this

set_option maxRecDepth 100000 in
theorem lifted (os : Os) (started : os.Started) (H : Type) (enc : TypeId × Value → H) :
    ReturnsInHanded {} Yba.checked os 5 .any (Rows.lawS1727CMarksHeldSpec.pre6 enc Yba.prog Yba.f5 Rows.lawS1727CMarksHeldRow.domain false) (Rows.lawS1727CMarksHeldSpec.post enc Yba.prog Yba.f5 false true false false) := by
  refine returnsInHanded_of_change (C := Yba.checked) own started (by kernel_rfl) Yba.func5
    (ChangeSpec.witness6 (enc := enc) (C := Yba.checked) false ⟨#[], #[.slice none 0 0, .int .u16 0, .bool false], []⟩ 8 (by kernel_rfl) (by kernel_rfl) (by kernel_rfl) (by kernel_rfl)) ?_
  intro W base args ds gs before hval0 hW hcnd _
  have hval : ∀ (j : Nat) t v, Yba.f5.params[j]? = some t → args[j]? = some v → Value.okWide Yba.prog W .any base t v := hval0
  have hW' := hW
  obtain ⟨p, q, hA0, hV, rfl, hfz, hnd⟩ := hW
  have hA : DataW.TrodAll enc Yba.prog W 0 (fun _ => true) true Yba.f5.params.toList args.toList ds p := hA0
  rw [Yba.params5] at hA hval
  obtain ⟨v0, vs0, d0, ds0, p0, q0, hargs, rfl, rfl, h0, r0⟩ := trodAll_cons hA
  obtain ⟨v1, vs1, d1, ds1, p1, q1, rfl, rfl, rfl, h1, r1⟩ := trodAll_cons r0
  obtain ⟨v2, vs2, d2, ds2, p2, q2, rfl, rfl, rfl, h2, r2⟩ := trodAll_cons r1
  obtain ⟨rfl, rfl, rfl⟩ := trodAll_nil r2
  obtain rfl : args = #[v0, v1, v2] := by cases args; simp_all
  obtain ⟨rfl, rfl⟩ := trodVars_none hV
  obtain ⟨a0, len0, cap0, rfl⟩ := okWide_slice Yba.underlying32 (hval 0 32 v0 rfl rfl)
  have k0 := h0
  have lt0 : ∀ x ∈ p0, x.block < W.heap.size := by obtain ⟨m, hm⟩ := k0; exact DataW.trod_lt m _ _ _ hm
  obtain ⟨c, T, hc⟩ := table_of h0
  obtain ⟨a1, rfl, rfl, rfl, w1⟩ := open_int Yba.underlying23 (hval 1 23 v1 rfl rfl) h1
  have hp : 0 ≤ a1 ∧ a1 ≤ 65535 := bounds_u16 w1
  obtain ⟨a2, rfl, rfl, rfl⟩ := open_bool Yba.underlying4 (hval 2 4 v2 rfl rfl) h2
  clear hA0 hval0
  refine (CWalk.law5 a0 len0 cap0 c a1 a2 W hp hc T).mono fun e W' ⟨he, bel⟩ => ?_
  subst he
  exact ⟨_, rfl, _, _, _, [], _, [], hW', trodAll_mk1 (shut_bool Yba.underlying4 _), (trodAll_cons_mk (Below.trod laidOut (by kernel_rfl) (of_decide_eq_true (by kernel_rfl)) k0 bel lt0) (trodAll_cons_mk (shut_int Yba.underlying23 w1) (trodAll_cons_mk (shut_bool Yba.underlying4 _) trodAll_mk0))), rfl, bel.frame _, fun h => by cases h⟩

theorem over : Rows.lawS1727CMarksHeldRow.holds Yba.pinned (OpenSpec.ofChange Rows.lawS1727CMarksHeldSpec) :=
  OpenClaim.holds_of_wide 5 Yba.f5 rfl rfl rfl rfl rfl rfl rfl ⟨rfl, rfl, rfl, rfl, rfl⟩ rfl rfl rfl rfl rfl (by kernel_rfl) Yba.func5 (by kernel_rfl)
    (of_decide_eq_true (by kernel_rfl)) (by unfold Func.isWrapper; first | (rw [if_pos (by decide +kernel)]; kernel_rfl) | (rw [if_neg (by decide +kernel)]; exact ⟨rfl, rfl⟩))
    (fun os started H enc _ => lifted os started H enc)

theorem proved : Rows.LawS1727CMarksHeldSaid := over
#print axioms proved
end Go.Proofs.Ybulkaisy.lawS1727CMarksHeld
