/-
  Words of IEEE's double: how they read, and that a finite word read and written again is itself. No Go in sight.
-/
import Derived.Test.Qxb6617397aRound
namespace Go.Proofs.Qxb6617397a
open Ieee

theorem word_eq (s : Bool) (r : Nat) : double.word s r = if s then 9223372036854775808 + r else r := by unfold Format.word; rw [d_sign]

/-- Every word of 64 bits is a sign and a rung. -/
theorem word_of {x : Nat} (h : x < 18446744073709551616) : ∃ s r, x = double.word s r ∧ r < 9223372036854775808 := by
  by_cases c : x < 9223372036854775808
  · exact ⟨false, x, by rw [word_eq]; rfl, c⟩
  · exact ⟨true, x - 9223372036854775808, by rw [word_eq]; simp; omega, by omega⟩

theorem read_parts (s : Bool) {r : Nat} (h : r < 9223372036854775808) : (double.word s r / 9223372036854775808 % 2 == 1) = s ∧ double.word s r % 9223372036854775808 = r := by
  rw [word_eq]
  cases s
  · simp; omega
  · simp; omega

theorem read_sub (s : Bool) {r : Nat} (h : r < 4503599627370496) : double.read (double.word s r) = .number s r (-1074) := by
  obtain ⟨h1, h2⟩ := read_parts s (show r < 9223372036854775808 by omega)
  unfold Format.read
  simp only [d_sign, d_binade, d_inf, d_least, h1, h2]
  rw [if_pos h]
theorem read_normal (s : Bool) {r : Nat} (h0 : 4503599627370496 ≤ r) (h : r < 9218868437227405312) : double.read (double.word s r) = .number s (4503599627370496 + r % 4503599627370496) (-1074 + ((r / 4503599627370496 - 1 : Nat) : Int)) := by
  obtain ⟨h1, h2⟩ := read_parts s (show r < 9223372036854775808 by omega)
  unfold Format.read
  simp only [d_sign, d_binade, d_inf, d_least, h1, h2]
  rw [if_neg (by omega), if_pos h]
theorem read_inf (s : Bool) : double.read (double.word s 9218868437227405312) = .infinity s := by
  obtain ⟨h1, h2⟩ := read_parts s (show 9218868437227405312 < 9223372036854775808 by omega)
  unfold Format.read
  simp only [d_sign, d_binade, d_inf, d_least, h1, h2]
  rw [if_neg (by omega), if_neg (by omega)]
  simp
theorem read_nan (s : Bool) {r : Nat} (h0 : 9218868437227405312 < r) (h : r < 9223372036854775808) : double.read (double.word s r) = .nan s (r - 9218868437227405312) := by
  obtain ⟨h1, h2⟩ := read_parts s h
  unfold Format.read
  simp only [d_sign, d_binade, d_inf, d_least, h1, h2]
  rw [if_neg (by omega), if_neg (by omega), if_neg (by omega)]

theorem log2_52 {m : Nat} (h1 : 4503599627370496 ≤ m) (h2 : m < 9007199254740992) : m.log2 = 52 := by
  have hm : m ≠ 0 := by omega
  have a := Nat.log2_self_le hm
  have b : m < 2 ^ (m.log2 + 1) := Nat.lt_log2_self
  have c1 : ¬ m.log2 < 52 := fun q => by
    have : 2 ^ (m.log2 + 1) ≤ 2 ^ 52 := Nat.pow_le_pow_right (by omega) (by omega)
    have e : (2 : Nat) ^ 52 = 4503599627370496 := by decide
    omega
  have c2 : ¬ 52 < m.log2 := fun q => by
    have : 2 ^ 53 ≤ 2 ^ m.log2 := Nat.pow_le_pow_right (by omega) (by omega)
    have e : (2 : Nat) ^ 53 = 9007199254740992 := by decide
    omega
  omega

theorem log2_51 {m : Nat} (hm : m ≠ 0) (h2 : m < 4503599627370496) : m.log2 ≤ 51 := by
  have a := Nat.log2_self_le hm
  have c2 : ¬ 51 < m.log2 := fun q => by
    have : 2 ^ 52 ≤ 2 ^ m.log2 := Nat.pow_le_pow_right (by omega) (by omega)
    have e : (2 : Nat) ^ 52 = 4503599627370496 := by decide
    omega
  omega

/-- A finite word: what it reads as, and that it is written again as itself. -/
theorem finite_word (s : Bool) {r : Nat} (h : r < 9218868437227405312) : ∃ m p, double.read (double.word s r) = .number s m p ∧ double.nearest s m p = double.word s r ∧ (m = 0 ↔ r = 0) ∧ -1074 ≤ p ∧ m < 9007199254740992 := by
  by_cases h0 : r < 4503599627370496
  · refine ⟨r, -1074, read_sub s h0, ?_, Iff.rfl, Int.le_refl _, by omega⟩
    by_cases hz : r = 0
    · rw [hz, nearest_zero]
    · rw [nearest_eq s hz]
      have := log2_51 hz h0
      have e : lastOf r (-1074) = -1074 := by unfold lastOf; omega
      rw [e, show (-1074 + 1074 : Int).toNat = 0 by omega, show (-1074 - -1074 : Int).toNat = 0 by omega, Nat.pow_zero, Nat.mul_one, ct_zero, Nat.zero_mul, Nat.zero_add, Nat.min_eq_left (by omega)]
  · have hm1 : 4503599627370496 ≤ 4503599627370496 + r % 4503599627370496 := by omega
    have hm2 : 4503599627370496 + r % 4503599627370496 < 9007199254740992 := by omega
    refine ⟨_, _, read_normal s (by omega) h, ?_, by omega, by omega, hm2⟩
    have hl := log2_52 hm1 hm2
    rw [nearest_normal s (by omega) (by rw [hl]; omega), hl]
    unfold kept
    rw [hl, show 52 - 52 = 0 by omega, ct_zero, Nat.pow_zero, Nat.mul_one]
    have e : (-1074 + ((r / 4503599627370496 - 1 : Nat) : Int) + ((52 : Nat) : Int) + 1022).toNat * 4503599627370496 + (4503599627370496 + r % 4503599627370496) = r := by omega
    rw [e, Nat.min_eq_left (by omega)]

end Go.Proofs.Qxb6617397a
