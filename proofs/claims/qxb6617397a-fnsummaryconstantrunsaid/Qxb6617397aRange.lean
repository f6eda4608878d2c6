/-
  What 'zero, or of magnitude in [2^-300, 2^300]' says of a word. No Go in sight.
-/
import Derived.Test.Qxb6617397aDouble
namespace Go.Proofs.Qxb6617397a
open Ieee

theorem order_num (s t : Bool) (m n : Nat) (i j : Int) : (Datum.number s m i).order (.number t n j) = some (compare (signed s m (i - min i j).toNat) (signed t n (j - min i j).toNat)) := rfl

theorem lo_read : double.read 3256102530588868608 = .number false 4503599627370496 (-352) := by decide +kernel
theorem hi_read : double.read 5958262307011166208 = .number false 4503599627370496 248 := by decide +kernel
theorem zero_read : double.read 0 = .number false 0 (-1074) := by decide +kernel

/-- The test of the law, on a word that is not negative: between the two bounds. -/
theorem between {r : Nat} (h : r < 9223372036854775808) (h1 : double.order (double.word false r) 3256102530588868608 ≠ some .lt) (h0 : double.order (double.word false r) 3256102530588868608 ≠ none)
    (h2 : double.order (double.word false r) 5958262307011166208 ≠ some .gt) : 723 * 4503599627370496 ≤ r ∧ r < 1324 * 4503599627370496 := by
  unfold Format.order at h1 h0 h2
  rw [lo_read] at h1 h0
  rw [hi_read] at h2
  by_cases c1 : r < 4503599627370496
  · rw [read_sub false c1, order_num] at h1
    exfalso
    apply h1
    refine congrArg some ?_
    rw [Int.compare_eq_lt, signed_eq, signed_eq]
    simp only [Bool.false_eq_true, if_false]
    have e1 : (-1074 - min (-1074) (-352) : Int).toNat = 0 := by decide
    obtain ⟨v, hv⟩ : ∃ v : Nat, (-352 - min (-1074) (-352) : Int).toNat = v := ⟨_, rfl⟩
    rw [e1, hv, Nat.pow_zero, Nat.mul_one]
    have : 4503599627370496 * 1 ≤ 4503599627370496 * 2 ^ v := Nat.mul_le_mul_left _ (Nat.two_pow_pos _)
    omega
  · by_cases c2 : r < 9218868437227405312
    · rw [read_normal false (by omega) c2, order_num] at h1 h2
      constructor
      · by_cases q : 723 * 4503599627370496 ≤ r
        · exact q
        · exfalso
          apply h1
          refine congrArg some ?_
          rw [Int.compare_eq_lt, signed_eq, signed_eq]
          simp only [Bool.false_eq_true, if_false]
          obtain ⟨u, hu⟩ : ∃ u : Nat, r / 4503599627370496 = u := ⟨_, rfl⟩
          rw [hu]
          have e1 : (-1074 + ((u - 1 : Nat) : Int) - min (-1074 + ((u - 1 : Nat) : Int)) (-352)).toNat = 0 := by omega
          obtain ⟨v, hv⟩ : ∃ v : Nat, (-352 - min (-1074 + ((u - 1 : Nat) : Int)) (-352)).toNat = v + 1 := ⟨(-352 - min (-1074 + ((u - 1 : Nat) : Int)) (-352)).toNat - 1, by omega⟩
          rw [e1, hv, Nat.pow_zero, Nat.mul_one, Nat.pow_succ]
          have : 4503599627370496 * (1 * 2) ≤ 4503599627370496 * (2 ^ v * 2) := Nat.mul_le_mul_left _ (Nat.mul_le_mul_right _ (Nat.two_pow_pos v))
          omega
      · by_cases q : r < 1324 * 4503599627370496
        · exact q
        · exfalso
          apply h2
          refine congrArg some ?_
          rw [Int.compare_eq_gt, signed_eq, signed_eq]
          simp only [Bool.false_eq_true, if_false]
          obtain ⟨u, hu⟩ : ∃ u : Nat, r / 4503599627370496 = u := ⟨_, rfl⟩
          rw [hu]
          have e1 : (248 - min (-1074 + ((u - 1 : Nat) : Int)) 248).toNat = 0 := by omega
          obtain ⟨v, hv⟩ : ∃ v : Nat, (-1074 + ((u - 1 : Nat) : Int) - min (-1074 + ((u - 1 : Nat) : Int)) 248).toNat = v + 1 := ⟨(-1074 + ((u - 1 : Nat) : Int) - min (-1074 + ((u - 1 : Nat) : Int)) 248).toNat - 1, by omega⟩
          rw [e1, hv, Nat.pow_zero, Nat.mul_one, Nat.pow_succ]
          have : (4503599627370496 + r % 4503599627370496) * (1 * 2) ≤ (4503599627370496 + r % 4503599627370496) * (2 ^ v * 2) := Nat.mul_le_mul_left _ (Nat.mul_le_mul_right _ (Nat.two_pow_pos v))
          omega
    · exfalso
      by_cases c3 : r = 9218868437227405312
      · rw [c3, read_inf] at h2
        exact h2 rfl
      · rw [read_nan false (by omega) h] at h0
        exact h0 rfl

/-- The sign struck from a negative word. -/
theorem neg_word {r : Nat} (h : r < 9223372036854775808) : double.word true r ^^^ 9223372036854775808 = double.word false r := by
  rw [word_eq, word_eq]
  simp only [if_true, Bool.false_eq_true, if_false]
  have e63 : (9223372036854775808 : Nat) = 2 ^ 63 := by decide
  have e : 9223372036854775808 + r = 9223372036854775808 ||| r := by
    have := Nat.two_pow_add_eq_or_of_lt (i := 63) (b := r) (by omega) 1
    simpa using this
  rw [e, e63]
  apply Nat.eq_of_testBit_eq
  intro i
  rw [Nat.testBit_xor, Nat.testBit_or, Nat.testBit_two_pow]
  by_cases q : 63 = i
  · subst q
    have : r.testBit 63 = false := Nat.testBit_lt_two_pow (by omega)
    simp [this]
  · simp [q]

/-- The law's own test, as the Go text makes it. -/
def inR (v : Nat) : Bool :=
  if (double.order v 0 == some .eq) = true then true
  else if (double.order v 0 == some .lt) = true then
    (double.order (v ^^^ 9223372036854775808) 3256102530588868608 == some .gt || double.order (v ^^^ 9223372036854775808) 3256102530588868608 == some .eq) && (double.order (v ^^^ 9223372036854775808) 5958262307011166208 == some .lt || double.order (v ^^^ 9223372036854775808) 5958262307011166208 == some .eq)
  else (double.order v 3256102530588868608 == some .gt || double.order v 3256102530588868608 == some .eq) && (double.order v 5958262307011166208 == some .lt || double.order v 5958262307011166208 == some .eq)

theorem ne_of_two {x : Option Ordering} {a b : Ordering} (h : (x == some a || x == some b) = true) : x = some a ∨ x = some b := by simpa using h

theorem order_zero (s : Bool) {m : Nat} (hm : 0 < m) (i : Int) : (Datum.number s m i).order (.number false 0 (-1074)) = some (if s then .lt else .gt) := by
  rw [order_num, signed_zero, signed_eq]
  have hpos : 0 < m * 2 ^ (i - min i (-1074)).toNat := Nat.mul_pos hm (Nat.two_pow_pos _)
  cases s
  · simp only [Bool.false_eq_true, if_false]
    exact congrArg some (Int.compare_eq_gt.2 (by omega))
  · simp only [if_true]
    exact congrArg some (Int.compare_eq_lt.2 (by omega))

/-- What it says of a word: it is a zero, or its magnitude lies in the range. -/
theorem inR_word {v : Nat} (hv : v < 18446744073709551616) (h : inR v = true) : ∃ s r, v = double.word s r ∧ (r = 0 ∨ (723 * 4503599627370496 ≤ r ∧ r < 1324 * 4503599627370496)) := by
  obtain ⟨s, r, rfl, hr⟩ := word_of hv
  refine ⟨s, r, rfl, ?_⟩
  by_cases h0 : r = 0
  · exact .inl h0
  · refine .inr ?_
    unfold inR at h
    by_cases c : r < 9218868437227405312
    · obtain ⟨m, p, e1, _, e3, _⟩ := finite_word s c
      have hm : 0 < m := by omega
      have ho : double.order (double.word s r) 0 = some (if s then .lt else .gt) := by
        unfold Format.order
        rw [e1, zero_read]
        exact order_zero s hm p
      rw [ho] at h
      cases s
      · simp at h
        obtain ⟨h1, h2⟩ := h
        refine between hr ?_ ?_ ?_
        · rcases h1 with q | q <;> rw [q] <;> simp
        · rcases h1 with q | q <;> rw [q] <;> simp
        · rcases h2 with q | q <;> rw [q] <;> simp
      · rw [neg_word hr] at h
        simp at h
        obtain ⟨h1, h2⟩ := h
        refine between hr ?_ ?_ ?_
        · rcases h1 with q | q <;> rw [q] <;> simp
        · rcases h1 with q | q <;> rw [q] <;> simp
        · rcases h2 with q | q <;> rw [q] <;> simp
    · exfalso
      by_cases c3 : r = 9218868437227405312
      · subst c3
        have ho : double.order (double.word s 9218868437227405312) 0 = some (if s then .lt else .gt) := by
          unfold Format.order
          rw [read_inf, zero_read]
          rfl
        have hh : double.order (double.word false 9218868437227405312) 5958262307011166208 = some .gt := by
          unfold Format.order
          rw [read_inf, hi_read]
          rfl
        rw [ho] at h
        cases s
        · rw [hh] at h
          simp at h
        · rw [neg_word hr, hh] at h
          simp at h
      · have hn : ∀ y, double.order (double.word s r) y = none := fun y => by
          unfold Format.order
          rw [read_nan s (by omega) hr]
          rfl
        simp [hn] at h

/-- Such a word and what it is times 2^k. -/
theorem inR_sc {v : Nat} (hv : v < 18446744073709551616) (h : inR v = true) (k : Nat) : ∃ y, Sc k (-300) 300 v y := by
  obtain ⟨s, r, e, q⟩ := inR_word hv h
  rcases q with rfl | ⟨q1, q2⟩
  · exact ⟨_, s, 0, e, .inl ⟨rfl, rfl⟩⟩
  · exact ⟨_, s, r, e, .inr ⟨by omega, by omega, rfl⟩⟩

end Go.Proofs.Qxb6617397a
