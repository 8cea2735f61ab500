/-
  THE PLAIN LAW behind 'LawS1729BModel': no Go in sight. Sixteen bytes z 0 .. z 15; 'dbl': what 'double' gives, byte by byte; 'hiN', 'loN', 'nhi', 'nlo', 'mdl': what the model on two 64-bit halves gives. They are one.
-/
namespace Go.Proofs.Ybulkaiua.BPlain
set_option linter.unusedVariables false
set_option linter.unusedSimpArgs false

def dbl (z : Nat → Nat) (i : Nat) : Nat := if i < 15 then (z i * 2 % 256) ||| (z (i + 1) / 128) else (z 15 * 2 % 256) ^^^ (if 128 ≤ z 0 then 135 else 0)

/-- The first k bytes from z o on, the highest first. -/
def acc (z : Nat → Nat) (o : Nat) : Nat → Nat
  | 0 => 0
  | k + 1 => acc z o k * 256 + z (o + k)

def nhi (z : Nat → Nat) : Nat := acc z 0 8 * 2 % 18446744073709551616 + acc z 8 8 / 9223372036854775808
def nlo (z : Nat → Nat) : Nat := if 128 ≤ z 0 then acc z 8 8 * 2 % 18446744073709551616 ^^^ 135 else acc z 8 8 * 2 % 18446744073709551616
def mdl (z : Nat → Nat) (i : Nat) : Nat := if i < 8 then nhi z / 2 ^ (56 - 8 * i) % 256 else nlo z / 2 ^ (56 - 8 * (i - 8)) % 256

theorem or_add (a b i : Nat) (h : b < 2 ^ i) : (2 ^ i * a) ||| b = 2 ^ i * a + b := (Nat.two_pow_add_eq_or_of_lt h a).symm

theorem or_byte (a b : Nat) (hb : b < 256) : a * 256 ||| b = a * 256 + b := by
  have := or_add a b 8 (by omega)
  rw [show 2 ^ 8 * a = a * 256 by omega] at this
  exact this
theorem or_bit (a b : Nat) (ha : a % 2 = 0) (hb : b < 2) : a ||| b = a + b := by
  have := or_add (a / 2) b 1 (by omega)
  rw [show 2 ^ 1 * (a / 2) = a by omega] at this
  exact this

theorem acc_lt (z : Nat → Nat) (hz : ∀ i, z i < 256) (o : Nat) : ∀ k, acc z o k < 256 ^ k
  | 0 => by simp [acc]
  | k + 1 => by
    have := acc_lt z hz o k
    have := hz (o + k)
    rw [acc, Nat.pow_succ]
    omega

theorem acc_lt64 (z : Nat → Nat) (hz : ∀ i, z i < 256) (o : Nat) : acc z o 8 < 18446744073709551616 := acc_lt z hz o 8

theorem acc8 (z : Nat → Nat) (o : Nat) : acc z o 8 = z o * 72057594037927936 + z (o + 1) * 281474976710656 + z (o + 2) * 1099511627776 + z (o + 3) * 4294967296 + z (o + 4) * 16777216 + z (o + 5) * 65536 + z (o + 6) * 256 + z (o + 7) := by
  simp only [acc, Nat.add_zero]
  omega

theorem acc8_0 (z : Nat → Nat) : acc z 0 8 = z 0 * 72057594037927936 + z 1 * 281474976710656 + z 2 * 1099511627776 + z 3 * 4294967296 + z 4 * 16777216 + z 5 * 65536 + z 6 * 256 + z 7 := by
  simp only [acc, Nat.reduceAdd]
  omega
theorem acc8_8 (z : Nat → Nat) : acc z 8 8 = z 8 * 72057594037927936 + z 9 * 281474976710656 + z 10 * 1099511627776 + z 11 * 4294967296 + z 12 * 16777216 + z 13 * 65536 + z 14 * 256 + z 15 := by
  simp only [acc, Nat.reduceAdd, Nat.add_zero]
  omega

theorem dbl_small (z : Nat → Nat) (hz : ∀ i, z i < 256) (i : Nat) (hi : i < 15) : dbl z i = z i * 2 % 256 + z (i + 1) / 128 := by
  unfold dbl
  rw [if_pos hi]
  have := hz (i + 1)
  exact or_bit _ _ (by omega) (by omega)

theorem xor_div (a s : Nat) (hs : 8 ≤ s) : (a ^^^ 135) / 2 ^ s = a / 2 ^ s := by
  have h := Nat.shiftRight_xor_distrib (a := a) (b := 135) (i := s)
  rw [Nat.shiftRight_eq_div_pow, Nat.shiftRight_eq_div_pow, Nat.shiftRight_eq_div_pow] at h
  rw [h]
  have : 135 / 2 ^ s = 0 := Nat.div_eq_of_lt (Nat.lt_of_lt_of_le (by decide : 135 < 2 ^ 8) (Nat.pow_le_pow_right (by decide) hs))
  rw [this, Nat.xor_zero]

theorem xor_mod (a : Nat) : (a ^^^ 135) % 256 = (a % 256) ^^^ 135 := by
  have h := Nat.xor_mod_two_pow (a := a) (b := 135) (n := 8)
  exact h

theorem hi_bytes (a0 a1 a2 a3 a4 a5 a6 a7 c N : Nat) (h0 : a0 < 256) (h1 : a1 < 256) (h2 : a2 < 256) (h3 : a3 < 256) (h4 : a4 < 256) (h5 : a5 < 256) (h6 : a6 < 256) (h7 : a7 < 256) (hc : c < 2)
    (hN : N = (a0 * 72057594037927936 + a1 * 281474976710656 + a2 * 1099511627776 + a3 * 4294967296 + a4 * 16777216 + a5 * 65536 + a6 * 256 + a7) * 2 % 18446744073709551616 + c) :
    N / 72057594037927936 % 256 = a0 * 2 % 256 + a1 / 128 ∧ N / 281474976710656 % 256 = a1 * 2 % 256 + a2 / 128 ∧ N / 1099511627776 % 256 = a2 * 2 % 256 + a3 / 128 ∧ N / 4294967296 % 256 = a3 * 2 % 256 + a4 / 128 ∧
    N / 16777216 % 256 = a4 * 2 % 256 + a5 / 128 ∧ N / 65536 % 256 = a5 * 2 % 256 + a6 / 128 ∧ N / 256 % 256 = a6 * 2 % 256 + a7 / 128 ∧ N % 256 = a7 * 2 % 256 + c := by
  have e : N = (a0 * 2 % 256 + a1 / 128) * 72057594037927936 + (a1 * 2 % 256 + a2 / 128) * 281474976710656 + (a2 * 2 % 256 + a3 / 128) * 1099511627776 + (a3 * 2 % 256 + a4 / 128) * 4294967296 + (a4 * 2 % 256 + a5 / 128) * 16777216 + (a5 * 2 % 256 + a6 / 128) * 65536 + (a6 * 2 % 256 + a7 / 128) * 256 + (a7 * 2 % 256 + c) := by
    omega
  have b0 : a0 * 2 % 256 + a1 / 128 < 256 := by omega
  have b1 : a1 * 2 % 256 + a2 / 128 < 256 := by omega
  have b2 : a2 * 2 % 256 + a3 / 128 < 256 := by omega
  have b3 : a3 * 2 % 256 + a4 / 128 < 256 := by omega
  have b4 : a4 * 2 % 256 + a5 / 128 < 256 := by omega
  have b5 : a5 * 2 % 256 + a6 / 128 < 256 := by omega
  have b6 : a6 * 2 % 256 + a7 / 128 < 256 := by omega
  have b7 : a7 * 2 % 256 + c < 256 := by omega
  generalize a0 * 2 % 256 + a1 / 128 = x0 at *
  generalize a1 * 2 % 256 + a2 / 128 = x1 at *
  generalize a2 * 2 % 256 + a3 / 128 = x2 at *
  generalize a3 * 2 % 256 + a4 / 128 = x3 at *
  generalize a4 * 2 % 256 + a5 / 128 = x4 at *
  generalize a5 * 2 % 256 + a6 / 128 = x5 at *
  generalize a6 * 2 % 256 + a7 / 128 = x6 at *
  generalize a7 * 2 % 256 + c = x7 at *
  clear hN
  refine ⟨?_, ?_, ?_, ?_, ?_, ?_, ?_, ?_⟩ <;> omega

theorem top (z : Nat → Nat) (hz : ∀ i, z i < 256) (o : Nat) : acc z o 8 / 9223372036854775808 = z o / 128 := by
  rw [acc8]
  have := hz o; have := hz (o + 1); have := hz (o + 2); have := hz (o + 3); have := hz (o + 4); have := hz (o + 5); have := hz (o + 6); have := hz (o + 7)
  omega

theorem same (z : Nat → Nat) (hz : ∀ i, z i < 256) (i : Nat) (hi : i < 16) : mdl z i = dbl z i := by
  have H := hi_bytes (z 0) (z 1) (z 2) (z 3) (z 4) (z 5) (z 6) (z 7) (z 8 / 128) (nhi z) (hz 0) (hz 1) (hz 2) (hz 3) (hz 4) (hz 5) (hz 6) (hz 7) (by have := hz 8; omega) (by unfold nhi; rw [top z hz 8, acc8_0])
  have L := hi_bytes (z 8) (z 9) (z 10) (z 11) (z 12) (z 13) (z 14) (z 15) 0 (acc z 8 8 * 2 % 18446744073709551616) (hz 8) (hz 9) (hz 10) (hz 11) (hz 12) (hz 13) (hz 14) (hz 15) (by omega) (by rw [acc8_8, Nat.add_zero])
  have nl : ∀ s, 8 ≤ s → nlo z / 2 ^ s = acc z 8 8 * 2 % 18446744073709551616 / 2 ^ s := fun s hs => by
    unfold nlo
    split
    · exact xor_div _ s hs
    · rfl
  by_cases h8 : i < 8
  · unfold mdl
    rw [if_pos h8, dbl_small z hz i (by omega)]
    obtain ⟨e0, e1, e2, e3, e4, e5, e6, e7⟩ := H
    have hc : i = 0 ∨ i = 1 ∨ i = 2 ∨ i = 3 ∨ i = 4 ∨ i = 5 ∨ i = 6 ∨ i = 7 := by omega
    rcases hc with rfl | rfl | rfl | rfl | rfl | rfl | rfl | rfl
    · simp only [Nat.reduceMul, Nat.reduceSub, Nat.reducePow, Nat.reduceAdd]; exact e0
    · simp only [Nat.reduceMul, Nat.reduceSub, Nat.reducePow, Nat.reduceAdd]; exact e1
    · simp only [Nat.reduceMul, Nat.reduceSub, Nat.reducePow, Nat.reduceAdd]; exact e2
    · simp only [Nat.reduceMul, Nat.reduceSub, Nat.reducePow, Nat.reduceAdd]; exact e3
    · simp only [Nat.reduceMul, Nat.reduceSub, Nat.reducePow, Nat.reduceAdd]; exact e4
    · simp only [Nat.reduceMul, Nat.reduceSub, Nat.reducePow, Nat.reduceAdd]; exact e5
    · simp only [Nat.reduceMul, Nat.reduceSub, Nat.reducePow, Nat.reduceAdd]; exact e6
    · simp only [Nat.reduceMul, Nat.reduceSub, Nat.reducePow, Nat.reduceAdd, Nat.div_one]; exact e7
  · obtain ⟨e0, e1, e2, e3, e4, e5, e6, e7⟩ := L
    by_cases h15 : i < 15
    · unfold mdl
      rw [if_neg h8, dbl_small z hz i h15, nl _ (by omega)]
      have hc : i = 8 ∨ i = 9 ∨ i = 10 ∨ i = 11 ∨ i = 12 ∨ i = 13 ∨ i = 14 := by omega
      rcases hc with rfl | rfl | rfl | rfl | rfl | rfl | rfl
      · simp only [Nat.reduceMul, Nat.reduceSub, Nat.reducePow, Nat.reduceAdd]; exact e0
      · simp only [Nat.reduceMul, Nat.reduceSub, Nat.reducePow, Nat.reduceAdd]; exact e1
      · simp only [Nat.reduceMul, Nat.reduceSub, Nat.reducePow, Nat.reduceAdd]; exact e2
      · simp only [Nat.reduceMul, Nat.reduceSub, Nat.reducePow, Nat.reduceAdd]; exact e3
      · simp only [Nat.reduceMul, Nat.reduceSub, Nat.reducePow, Nat.reduceAdd]; exact e4
      · simp only [Nat.reduceMul, Nat.reduceSub, Nat.reducePow, Nat.reduceAdd]; exact e5
      · simp only [Nat.reduceMul, Nat.reduceSub, Nat.reducePow, Nat.reduceAdd]; exact e6
    · obtain rfl : i = 15 := by omega
      unfold mdl dbl
      rw [if_neg h8, if_neg h15]
      simp only [Nat.reduceMul, Nat.reduceSub, Nat.reducePow, Nat.div_one]
      unfold nlo
      split
      · rw [xor_mod, e7, Nat.add_zero]
      · rw [e7, Nat.add_zero, Nat.xor_zero]
end Go.Proofs.Ybulkaiua.BPlain
