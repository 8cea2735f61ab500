/-
  THE WALKS of 'LawS1729AExact' (function 3) and 'LawS1729AUnaccepted' (function 4); 'eX', 'eY': the two spellings of the estimate are one number.
-/
import Derived.Test.YbulkaiuaChecked
import Derived.WalkKit
import Derived.WalkSpells
import Derived.WalkLawsBesides
import Derived.Outline
import Derived.OpenShut
import Derived.Laws.BitsAllLaws
namespace Go.Proofs.Ybulkaiua.AWalk
open Go.RowKit
set_option linter.unusedVariables false

set_option maxRecDepth 100000 in
set_option maxHeartbeats 400000 in
theorem law4 (a0 a1 a2 : Int) (b0 : 0 ≤ a0 ∧ a0 ≤ 4294967295) (b1 : 0 ≤ a1 ∧ a1 ≤ 4294967295) (b2 : 0 ≤ a2 ∧ a2 ≤ 255) (w : World) :
    Calls Yba.prog 4 #[.int .u32 a0, .int .u32 a1, .int .u8 a2] w fun e w' => e = .returned (.bool true) ∧ Grown w w' := by
  obtain ⟨l0, u0⟩ := b0
  obtain ⟨l1, u1⟩ := b1
  obtain ⟨l2, u2⟩ := b2
  go_enter Yba.func4, Yba.ntmps4
  go_wp2
  go_ret
  exact ⟨rfl, by repeat (first | exact Grown.refl _ | apply Grown.drew | apply Grown.alloc)⟩

set_option maxRecDepth 100000 in
set_option maxHeartbeats 400000 in
theorem law3_no (a0 a2 : Int) (b0 : 0 ≤ a0 ∧ a0 ≤ 4294967295) (b2 : 0 ≤ a2 ∧ a2 ≤ 255) (w : World) :
    Calls Yba.prog 3 #[.int .u32 a0, .bool false, .int .u8 a2] w fun e w' => e = .returned (.bool true) ∧ Grown w w' := by
  obtain ⟨l0, u0⟩ := b0
  obtain ⟨l2, u2⟩ := b2
  go_enter Yba.func3, Yba.ntmps3
  go_wp2
  go_ret
  exact ⟨rfl, by repeat (first | exact Grown.refl _ | apply Grown.drew | apply Grown.alloc)⟩

theorem or_add (a b i : Nat) (h : b < 2 ^ i) : (2 ^ i * a) ||| b = 2 ^ i * a + b := (Nat.two_pow_add_eq_or_of_lt h a).symm
theorem or_byte (a b : Nat) (hb : b < 256) : a * 256 ||| b = a * 256 + b := by
  have := or_add a b 8 (by omega)
  rw [show 2 ^ 8 * a = a * 256 by omega] at this
  exact this

theorem eX (a0 a2 : Nat) (u0 : a0 ≤ 4294967295) (u2 : a2 ≤ 255) : bits .or .u32 (IntKind.u16.wrap ((a0 : Int) / 256) % 4294967296 * 256 % 4294967296) (a2 : Int) = ((a0 / 256 % 65536 * 256 + a2 : Nat) : Int) := by
  have e : IntKind.u16.wrap ((a0 : Int) / 256) % 4294967296 * 256 % 4294967296 = ((a0 / 256 % 65536 * 256 : Nat) : Int) := by
    rw [IntKind.wrap_u16]; omega
  rw [e, u32_or_nat _ _ (by omega) (by omega), or_byte _ _ (by omega)]

theorem and24 (a0 : Nat) : a0 &&& 16777215 = a0 % 16777216 := Nat.and_two_pow_sub_one_eq_mod a0 24
theorem andNot8 (x : Nat) (h : x < 4294967296) : x &&& (4294967295 - 255) = x / 256 * 256 := by
  apply Nat.eq_of_testBit_eq
  intro i
  rw [Nat.testBit_and, show (4294967295 - 255 : Nat) = 2 ^ 8 * (2 ^ 24 - 1) by rfl, show x / 256 * 256 = 2 ^ 8 * (x / 2 ^ 8) by omega, Nat.testBit_two_pow_mul, Nat.testBit_two_pow_mul]
  by_cases h8 : 8 ≤ i
  · simp only [h8, decide_true, Bool.true_and]
    rw [Nat.testBit_two_pow_sub_one, Nat.testBit_div_two_pow, show i - 8 + 8 = i by omega]
    by_cases h32 : i - 8 < 24
    · simp [h32]
    · have : x.testBit i = false := Nat.testBit_lt_two_pow (Nat.lt_of_lt_of_le h (show 4294967296 ≤ 2 ^ i from Nat.le_trans (show 4294967296 ≤ 2 ^ 32 by decide) (Nat.pow_le_pow_right (by decide) (by omega))))
      simp [this]
  · simp [h8]

theorem eY (a0 a2 : Nat) (u0 : a0 ≤ 4294967295) (u2 : a2 ≤ 255) : bits .or .u64 (IntKind.u64.wrap (bits .andNot .u32 (bits .and .u32 (a0 : Int) 16777215) 255)) (a2 : Int) = ((a0 / 256 % 65536 * 256 + a2 : Nat) : Int) := by
  have e1 : bits .and .u32 (a0 : Int) 16777215 = ((a0 % 16777216 : Nat) : Int) := by
    have := u32_and_nat a0 16777215 (by omega) (by omega)
    rw [and24] at this
    exact this
  have e2 : bits .andNot .u32 ((a0 % 16777216 : Nat) : Int) 255 = ((a0 % 16777216 / 256 * 256 : Nat) : Int) := by
    have := u32_andNot_nat (a0 % 16777216) 255 (by omega) (by omega)
    rw [andNot8 _ (by omega)] at this
    exact this
  have e3 : IntKind.u64.wrap ((a0 % 16777216 / 256 * 256 : Nat) : Int) = ((a0 % 16777216 / 256 * 256 : Nat) : Int) := by
    rw [IntKind.wrap_u64]; omega
  rw [e1, e2, e3, u64_or_nat _ _ (by omega) (by omega), or_byte _ _ (by omega), show a0 % 16777216 / 256 = a0 / 256 % 65536 by omega]

set_option maxRecDepth 100000 in
set_option maxHeartbeats 800000 in
theorem law3_yes (a0 a2 : Nat) (u0 : a0 ≤ 4294967295) (u2 : a2 ≤ 255) (w : World) :
    Calls Yba.prog 3 #[.int .u32 a0, .bool true, .int .u8 a2] w fun e w' => e = .returned (.bool true) ∧ Grown w w' := by
  have e1 := eX a0 a2 u0 u2
  have e2 := eY a0 a2 u0 u2
  have e3 : a0 ≤ 16777215 → bits .or .u32 ((a0 : Int) / 256 * 256) (a2 : Int) = ((a0 / 256 % 65536 * 256 + a2 : Nat) : Int) := fun h => by
    have e : (a0 : Int) / 256 * 256 = ((a0 / 256 % 65536 * 256 : Nat) : Int) := by omega
    rw [e, u32_or_nat _ _ (by omega) (by omega), or_byte _ _ (by omega)]
  have hC : a0 / 256 % 65536 * 256 + a2 ≤ 16777215 := by omega
  generalize a0 / 256 % 65536 * 256 + a2 = C at *
  by_cases h : C ≤ a0
  · clear e3
    go_enter Yba.func3, Yba.ntmps3
    go_wp2
    go_ret
    exact ⟨rfl, by repeat (first | exact Grown.refl _ | apply Grown.drew | apply Grown.alloc)⟩
  · have e4 := e3 (by omega)
    clear e3
    go_enter Yba.func3, Yba.ntmps3
    go_wp2
    go_ret
    exact ⟨rfl, by repeat (first | exact Grown.refl _ | apply Grown.drew | apply Grown.alloc)⟩

theorem law3 (a0 a2 : Int) (a1 : Bool) (b0 : 0 ≤ a0 ∧ a0 ≤ 4294967295) (b2 : 0 ≤ a2 ∧ a2 ≤ 255) (w : World) :
    Calls Yba.prog 3 #[.int .u32 a0, .bool a1, .int .u8 a2] w fun e w' => e = .returned (.bool true) ∧ Grown w w' := by
  cases a1
  · exact law3_no a0 a2 b0 b2 w
  · obtain ⟨n0, rfl⟩ := Int.eq_ofNat_of_zero_le b0.1
    obtain ⟨n2, rfl⟩ := Int.eq_ofNat_of_zero_le b2.1
    exact law3_yes n0 n2 (by omega) (by omega) w
end Go.Proofs.Ybulkaiua.AWalk
