/-
  THE PROOF OF 'Rows.LawS1729BModelSaid': the frame after the kit's own, the walk out of YbulkaiuaBLaw, the plain law out of YbulkaiuaBPlain.
-/
import Derived.Test.YbulkaiuaRows
import Derived.WalkKit
import Derived.ProofKit
import Derived.OpenShut
import Derived.ShutString
import Derived.ChangeOld
import Derived.Below
import Derived.Deep.Slices
import Derived.Test.YbulkaiuaBLaw
namespace Go.Proofs.Ybulkaiua.lawS1729BModel
open Go.ChangeShapes Go.WideShapes Go.ChangeAt Go.RowKit
set_option linter.unusedVariables false

theorem own : ownKnob Yba.prog.godebug = none := by kernel_rfl
theorem laidOut : laidOutB Yba.prog = true := by kernel_rfl
theorem cells5 : Yba.prog.cellsOf 5 = 1 := by kernel_rfl
theorem cells39 : Yba.prog.cellsOf 39 = 16 := by kernel_rfl

/-- An array of sixteen bytes as it was read. -/
theorem bytes_of {H : Type} {enc : TypeId × Value → H} {W : World} {cs : Array Value} {d : DataW H} {p : List MemPlace}
    (h : DataW.Trod enc Yba.prog W 0 (fun _ => true) true 39 (.agg cs) d p) : ∃ z : Nat → Nat, (∀ i, z i < 256) ∧ cs = (BWalk.row z).toArray := by
  obtain ⟨fuel, hf⟩ := h
  obtain ⟨xs, m, _, _, hlen, hxs, hel⟩ := DataW.trod_array Yba.underlying39 hf
  have hlen' : cs.toList.length = 16 := hlen.trans cells39
  have each : ∀ i, i < 16 → ∃ n : Nat, n < 256 ∧ cs.toList[i]? = some (.int .u8 (n : Int)) := fun i hi => by
    have h1 := hel i hi
    rw [cells5, Nat.mul_one, List.getElem?_eq_getElem (by omega)] at h1
    obtain ⟨n, e, _, hw⟩ := DataW.trod_int Yba.underlying5 h1
    have hb := bounds_u8 hw
    refine ⟨n.toNat, by omega, ?_⟩
    have hi' : i < cs.toList.length := by omega
    have e' : List.take 1 (List.drop i cs.toList) = [cs.toList[i]] := by rw [List.drop_eq_getElem_cons hi', List.take_succ_cons, List.take_zero]
    have e2 : List.take 1 (List.drop i cs.toList) = [.int .u8 n] := e
    rw [e'] at e2
    rw [List.getElem?_eq_getElem hi', (List.cons.inj e2).1, Int.toNat_of_nonneg hb.1]
  obtain ⟨z, hz⟩ := Deep.choose_lt (α := Nat) (p := fun i n => n < 256 ∧ cs.toList[i]? = some (.int .u8 (n : Int))) each
  refine ⟨fun i => if i < 16 then z i else 0, fun i => ?_, ?_⟩
  · by_cases e : i < 16
    · simp only [if_pos e]; exact (hz i e).1
    · simp only [if_neg e]; omega
  · have e : cs.toList = BWalk.row (fun i => if i < 16 then z i else 0) := by
      apply List.ext_getElem?
      intro i
      by_cases e : i < 16
      · rw [BWalk.row_get _ i e, (hz i e).2, if_pos e]
      · rw [List.getElem?_eq_none (by omega), List.getElem?_eq_none (by rw [BWalk.row_len]; omega)]
    rw [← e]

set_option maxRecDepth 100000 in
theorem lifted (os : Os) (started : os.Started) (H : Type) (enc : TypeId × Value → H) :
    ReturnsInHanded {} Yba.checked os 5 .any (Rows.lawS1729BModelSpec.pre6 enc Yba.prog Yba.f5 Rows.lawS1729BModelRow.domain false) (Rows.lawS1729BModelSpec.post enc Yba.prog Yba.f5 false true false false) := by
  refine returnsInHanded_of_change (C := Yba.checked) own started (by kernel_rfl) Yba.func5
    (ChangeSpec.witness6 (enc := enc) (C := Yba.checked) false ⟨#[], #[.agg #[.int .u8 0, .int .u8 0, .int .u8 0, .int .u8 0, .int .u8 0, .int .u8 0, .int .u8 0, .int .u8 0, .int .u8 0, .int .u8 0, .int .u8 0, .int .u8 0, .int .u8 0, .int .u8 0, .int .u8 0, .int .u8 0]], []⟩ 8 (by kernel_rfl) (by kernel_rfl) (by kernel_rfl) (by kernel_rfl)) ?_
  intro W base args ds gs before hval0 hW hcnd _
  have hval : ∀ (j : Nat) t v, Yba.f5.params[j]? = some t → args[j]? = some v → Value.okWide Yba.prog W .any base t v := hval0
  have hW' := hW
  obtain ⟨p, q, hA0, hV, rfl, hfz, hnd⟩ := hW
  have hA : DataW.TrodAll enc Yba.prog W 0 (fun _ => true) true Yba.f5.params.toList args.toList ds p := hA0
  rw [Yba.params5] at hA hval
  obtain ⟨v0, vs0, d0, ds0, p0, q0, hargs, rfl, rfl, h0, r0⟩ := trodAll_cons hA
  obtain ⟨rfl, rfl, rfl⟩ := trodAll_nil r0
  obtain rfl : args = #[v0] := by cases args; simp_all
  obtain ⟨rfl, rfl⟩ := trodVars_none hV
  have k0 := h0
  have lt0 : ∀ x ∈ p0, x.block < W.heap.size := by obtain ⟨m, hm⟩ := k0; exact DataW.trod_lt m _ _ _ hm
  obtain ⟨cs, rfl⟩ : ∃ cs : Array Value, v0 = .agg cs := by
    have hv := hval 0 39 v0 rfl rfl
    simp only [Value.okWide, Yba.underlying39] at hv
    obtain ⟨cs, e, _⟩ := hv
    exact ⟨cs, e⟩
  obtain ⟨z, hz, rfl⟩ := bytes_of h0
  clear hA0 hval0
  refine (BWalk.law5 z hz W).mono fun e W' ⟨he, bel⟩ => ?_
  subst he
  exact ⟨_, rfl, _, _, _, [], _, [], hW', trodAll_mk1 (shut_bool Yba.underlying4 _), (trodAll_cons_mk (Below.trod laidOut (by kernel_rfl) (of_decide_eq_true (by kernel_rfl)) k0 bel lt0) trodAll_mk0), rfl, bel.frame _, fun h => by cases h⟩

theorem over : Rows.lawS1729BModelRow.holds Yba.pinned (OpenSpec.ofChange Rows.lawS1729BModelSpec) :=
  OpenClaim.holds_of_wide 5 Yba.f5 rfl rfl rfl rfl rfl rfl rfl ⟨rfl, rfl, rfl, rfl, rfl⟩ rfl rfl rfl rfl rfl (by kernel_rfl) Yba.func5 (by kernel_rfl)
    (of_decide_eq_true (by kernel_rfl)) (by unfold Func.isWrapper; first | (rw [if_pos (by decide +kernel)]; kernel_rfl) | (rw [if_neg (by decide +kernel)]; exact ⟨rfl, rfl⟩))
    (fun os started H enc _ => lifted os started H enc)

theorem proved : Rows.LawS1729BModelSaid := over
#print axioms proved
end Go.Proofs.Ybulkaiua.lawS1729BModel
