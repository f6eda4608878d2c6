/-
  Rounding in IEEE's double, as the model has it: what 'nearest' gives in the normal range; that it hangs on the number alone; that a power of two moves it by whole binades. No Go in sight.
-/
import Ieee.Arith
namespace Go.Proofs.Qxb6617397a
open Ieee

theorem d_binade : double.binade = 4503599627370496 := by decide
theorem d_inf : double.infRung = 9218868437227405312 := by decide
theorem d_sign : double.signWeight = 9223372036854775808 := by decide
theorem d_least : double.leastPlace = -1074 := by decide
theorem d_frac : double.fractionBits = 52 := rfl

/-- n / 2 ^ d to the nearest whole number, ties to even. -/
def ct (n d : Nat) : Nat := n / 2 ^ d + if 2 ^ d < 2 * (n % 2 ^ d) ∨ (2 ^ d = 2 * (n % 2 ^ d) ∧ (n / 2 ^ d) % 2 = 1) then 1 else 0

theorem more_nat (g r l : Nat) : (g < 2 * r || (g == 2 * r && l % 2 == 1)).toNat = if g < 2 * r ∨ (g = 2 * r ∧ l % 2 = 1) then 1 else 0 := by
  by_cases a : g < 2 * r
  · simp [a]
  · by_cases b : g = 2 * r
    · by_cases c : l % 2 = 1
      · simp [b, c]
      · have : (l % 2 == 1) = false := by simpa using c
        simp [b, c]
    · have : (g == 2 * r) = false := by simpa using b
      simp [a, b, this]

theorem cut_eq (neg : Bool) (n d : Nat) : Toward.even.cut neg n d = ct n d := by
  unfold Toward.cut ct
  simp only [Nat.one_shiftLeft]
  rw [more_nat]
  by_cases h : d ≤ n.log2 + 2
  · rw [Nat.min_eq_left h]
  · rw [Nat.min_eq_right (by omega)]
    have h1 : n < 2 ^ (n.log2 + 1) := Nat.lt_log2_self
    have h2 : 2 ^ (n.log2 + 2) = 2 * 2 ^ (n.log2 + 1) := by rw [Nat.pow_succ, Nat.mul_comm]
    have h3 : 2 ^ (n.log2 + 2) ≤ 2 ^ d := Nat.pow_le_pow_right (by omega) (by omega)
    have a1 : n / 2 ^ (n.log2 + 2) = 0 := Nat.div_eq_of_lt (by omega)
    have a2 : n / 2 ^ d = 0 := Nat.div_eq_of_lt (by omega)
    have b1 : n % 2 ^ (n.log2 + 2) = n := Nat.mod_eq_of_lt (by omega)
    have b2 : n % 2 ^ d = n := Nat.mod_eq_of_lt (by omega)
    rw [a1, a2, b1, b2, if_neg (by omega), if_neg (by omega)]

theorem ct_zero (n : Nat) : ct n 0 = n := by unfold ct; simp; omega

theorem ct_shift (n d k : Nat) : ct (n * 2 ^ k) (d + k) = ct n d := by
  unfold ct
  have hp : 0 < 2 ^ k := Nat.two_pow_pos k
  have e : 2 ^ (d + k) = 2 ^ d * 2 ^ k := Nat.pow_add 2 d k
  rw [e, Nat.mul_div_mul_right _ _ hp, Nat.mul_mod_mul_right]
  congr 1
  have c1 : 2 ^ d * 2 ^ k < 2 * (n % 2 ^ d * 2 ^ k) ↔ 2 ^ d < 2 * (n % 2 ^ d) := by
    rw [← Nat.mul_assoc]
    exact Nat.mul_lt_mul_right hp
  have c2 : 2 ^ d * 2 ^ k = 2 * (n % 2 ^ d * 2 ^ k) ↔ 2 ^ d = 2 * (n % 2 ^ d) := by
    rw [← Nat.mul_assoc]
    exact Nat.mul_right_cancel_iff hp
  simp only [c1, c2]

theorem ct_exact (n d k : Nat) (h : d ≤ k) : ct (n * 2 ^ k) d = n * 2 ^ (k - d) := by
  have := ct_shift (n * 2 ^ (k - d)) 0 d
  rw [Nat.zero_add, Nat.mul_assoc, ← Nat.pow_add, show k - d + d = k by omega, ct_zero] at this
  exact this

theorem log2_shift {m : Nat} (hm : m ≠ 0) (k : Nat) : (m * 2 ^ k).log2 = m.log2 + k := by
  induction k with
  | zero => simp
  | succ k ih =>
    rw [Nat.pow_succ, ← Nat.mul_assoc, Nat.mul_comm _ 2, Nat.log2_two_mul (Nat.mul_ne_zero hm (Nat.ne_of_gt (Nat.two_pow_pos k))), ih]
    omega

/-- The place of the last digit that is kept. -/
def lastOf (m : Nat) (p : Int) : Int := max (p + m.log2 - 52) (-1074)

theorem nearest_eq (neg : Bool) {m : Nat} (hm : m ≠ 0) (p : Int) :
    double.nearest neg m p = double.word neg (min ((lastOf m p + 1074).toNat * 4503599627370496 + ct (m * 2 ^ (p - lastOf m p).toNat) (lastOf m p - p).toNat) 9218868437227405312) := by
  unfold Format.nearest lastOf
  simp only [if_neg hm, d_least, d_frac, d_inf, d_binade, cut_eq, Nat.shiftLeft_eq]
  rfl

theorem nearest_zero (neg : Bool) (p : Int) : double.nearest neg 0 p = double.word neg 0 := by unfold Format.nearest; rw [if_pos rfl]

/-- It hangs on the number alone. -/
theorem nearest_shift (neg : Bool) (m k : Nat) (p : Int) : double.nearest neg (m * 2 ^ k) p = double.nearest neg m (p + k) := by
  by_cases hm : m = 0
  · rw [hm, Nat.zero_mul, nearest_zero, nearest_zero]
  · have hm2 : m * 2 ^ k ≠ 0 := Nat.mul_ne_zero hm (Nat.ne_of_gt (Nat.two_pow_pos k))
    rw [nearest_eq neg hm2, nearest_eq neg hm]
    have el : lastOf (m * 2 ^ k) p = lastOf m (p + k) := by
      unfold lastOf
      rw [log2_shift hm]
      congr 1
      omega
    rw [el]
    generalize lastOf m (p + k) = q
    have e : ct (m * 2 ^ k * 2 ^ (p - q).toNat) (q - p).toNat = ct (m * 2 ^ (p + k - q).toNat) (q - (p + k)).toNat := by
      by_cases h1 : q ≤ p
      · rw [show (q - p).toNat = 0 by omega, show (q - (p + k)).toNat = 0 by omega, ct_zero, ct_zero, Nat.mul_assoc, ← Nat.pow_add]
        congr 2
        omega
      · by_cases h2 : p + k ≤ q
        · rw [show (p - q).toNat = 0 by omega, show (p + k - q).toNat = 0 by omega, Nat.pow_zero, Nat.mul_one, Nat.mul_one, show (q - p).toNat = (q - (p + k)).toNat + k by omega, ct_shift]
        · rw [show (p - q).toNat = 0 by omega, show (q - (p + k)).toNat = 0 by omega, Nat.pow_zero, Nat.mul_one, ct_zero, ct_exact _ _ _ (by omega)]
          congr 2
          omega
    rw [e]

/-- The significand, with all its digits, of a number that is not below the normal range. -/
def kept (m : Nat) : Nat := ct (m * 2 ^ (52 - m.log2)) (m.log2 - 52)

theorem kept_bd {m : Nat} (hm : m ≠ 0) : 4503599627370496 ≤ kept m ∧ kept m ≤ 9007199254740992 := by
  have h1 : 2 ^ m.log2 ≤ m := Nat.log2_self_le hm
  have h2 : m < 2 ^ (m.log2 + 1) := Nat.lt_log2_self
  unfold kept
  generalize m.log2 = L at h1 h2
  by_cases h : L ≤ 52
  · rw [show L - 52 = 0 by omega, ct_zero]
    have e : 2 ^ L * 2 ^ (52 - L) = 4503599627370496 := by rw [← Nat.pow_add, show L + (52 - L) = 52 by omega]
    have e2 : 2 ^ (L + 1) * 2 ^ (52 - L) = 9007199254740992 := by rw [← Nat.pow_add, show L + 1 + (52 - L) = 53 by omega]
    constructor
    · rw [← e]; exact Nat.mul_le_mul_right _ h1
    · rw [← e2]; exact Nat.mul_le_mul_right _ (Nat.le_of_lt h2)
  · rw [show 52 - L = 0 by omega, Nat.pow_zero, Nat.mul_one]
    unfold ct
    have hp : 0 < 2 ^ (L - 52) := Nat.two_pow_pos _
    have e : 2 ^ L = 4503599627370496 * 2 ^ (L - 52) := by
      have : 2 ^ L = 2 ^ 52 * 2 ^ (L - 52) := by rw [← Nat.pow_add, show 52 + (L - 52) = L by omega]
      exact this
    have e2 : 2 ^ (L + 1) = 9007199254740992 * 2 ^ (L - 52) := by
      have : 2 ^ (L + 1) = 2 ^ 53 * 2 ^ (L - 52) := by rw [← Nat.pow_add, show 53 + (L - 52) = L + 1 by omega]
      exact this
    have a1 : 4503599627370496 ≤ m / 2 ^ (L - 52) := by rw [Nat.le_div_iff_mul_le hp]; omega
    have a2 : m / 2 ^ (L - 52) < 9007199254740992 := by rw [Nat.div_lt_iff_lt_mul hp]; omega
    split <;> omega

/-- 'nearest' in the normal range. -/
theorem nearest_normal (neg : Bool) {m : Nat} (hm : m ≠ 0) {p : Int} (hp : -1022 ≤ p + m.log2) :
    double.nearest neg m p = double.word neg (min ((p + m.log2 + 1022).toNat * 4503599627370496 + kept m) 9218868437227405312) := by
  rw [nearest_eq neg hm]
  have e : lastOf m p = p + m.log2 - 52 := by unfold lastOf; omega
  rw [e]
  unfold kept
  rw [show (p + m.log2 - 52 + 1074).toNat = (p + m.log2 + 1022).toNat by omega, show (p - (p + ↑m.log2 - 52)).toNat = 52 - m.log2 by omega, show (p + ↑m.log2 - 52 - p).toNat = m.log2 - 52 by omega]

/-- The rung of such a number. -/
theorem nearest_rung (neg : Bool) {m : Nat} (hm : m ≠ 0) {p a b : Int} (ha : a ≤ p + m.log2) (hb : p + m.log2 ≤ b) (h1 : -1022 ≤ a) (h2 : b ≤ 1000) :
    ∃ r, double.nearest neg m p = double.word neg r ∧ (a + 1023) * 4503599627370496 ≤ (r : Int) ∧ (r : Int) ≤ (b + 1024) * 4503599627370496 ∧ ∀ k : Nat, k ≤ 10 → double.nearest neg m (p + k) = double.word neg (r + k * 4503599627370496) := by
  obtain ⟨k1, k2⟩ := kept_bd hm
  refine ⟨(p + m.log2 + 1022).toNat * 4503599627370496 + kept m, ?_, ?_, ?_, fun k hk => ?_⟩
  · rw [nearest_normal neg hm (by omega), Nat.min_eq_left (by omega)]
  · omega
  · omega
  · rw [nearest_normal neg hm (by omega), show (p + (k : Int) + m.log2 + 1022).toNat = (p + m.log2 + 1022).toNat + k by omega, Nat.min_eq_left (by omega)]
    have e : ((p + m.log2 + 1022).toNat + k) * 4503599627370496 + kept m = (p + m.log2 + 1022).toNat * 4503599627370496 + kept m + k * 4503599627370496 := by omega
    rw [e]

end Go.Proofs.Qxb6617397a
