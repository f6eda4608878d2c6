/-
  The plain laws of 'observing the mean again': sums with a zero, a number less itself, a zero divided, a product with a zero; what NaNs come to. No Go in sight.
-/
import Derived.Test.Qxb6617397aRange
namespace Go.Proofs.Qxb6617397a
open Ieee

/-- A zero, of either sign. -/
def Zr (x : Nat) : Prop := ∃ s, x = double.word s 0
/-- A finite word. -/
def Fin (x : Nat) : Prop := ∃ s r, x = double.word s r ∧ r < 9218868437227405312
/-- A NaN. -/
def IsNaN (x : Nat) : Prop := ∃ s r, x = double.word s r ∧ 9218868437227405312 < r ∧ r < 9223372036854775808
/-- One number, or two zeros. -/
def Eqv (x y : Nat) : Prop := x = y ∨ (Zr x ∧ Zr y)

theorem Zr.fin {x : Nat} (h : Zr x) : Fin x := by obtain ⟨s, rfl⟩ := h; exact ⟨s, 0, rfl, by omega⟩
theorem Zr.read {x : Nat} (h : Zr x) : ∃ s, double.read x = .number s 0 (-1074) ∧ x = double.word s 0 := by
  obtain ⟨s, rfl⟩ := h
  exact ⟨s, read_sub s (by omega), rfl⟩
theorem Fin.read {x : Nat} (h : Fin x) : ∃ s m p, double.read x = .number s m p ∧ double.nearest s m p = x ∧ (m = 0 → Zr x ∧ p = -1074) ∧ -1074 ≤ p ∧ m < 9007199254740992 := by
  obtain ⟨s, r, rfl, hr⟩ := h
  by_cases h0 : r < 4503599627370496
  · obtain ⟨m, p, e1, e2, e3, e4, e5⟩ := finite_word s hr
    rw [read_sub s h0] at e1
    simp only [Datum.number.injEq, true_and] at e1
    obtain ⟨rfl, rfl⟩ := e1
    exact ⟨s, r, -1074, read_sub s h0, e2, fun q => ⟨⟨s, by rw [q]⟩, rfl⟩, by omega, e5⟩
  · obtain ⟨m, p, e1, e2, e3, e4, e5⟩ := finite_word s hr
    exact ⟨s, m, p, e1, e2, fun q => by omega, e4, e5⟩

/-- x - x' is a zero where the two are one number. -/
theorem sub_eqv {x y : Nat} (hx : Fin x) (h : Eqv y x) : ∃ z, double.sub x y = some z ∧ Zr z := by
  unfold Format.sub
  rcases h with rfl | ⟨hy, hz⟩
  · obtain ⟨s, m, p, e, _⟩ := hx.read
    rw [e]
    refine ⟨double.word false 0, ?_, ⟨false, rfl⟩⟩
    show ((Datum.number s m p).sum (.number (!s) m p)).map double.write = _
    rw [sum_eq s (!s) m m p p (tot := 0) (by rw [signed_eq, signed_eq]; cases s <;> simp <;> omega), if_pos rfl]
    show some (double.nearest (s && !s) 0 _) = _
    rw [nearest_zero]
    cases s <;> rfl
  · obtain ⟨s, e, _⟩ := hz.read
    obtain ⟨t, f, _⟩ := hy.read
    rw [e, f]
    exact ⟨_, sum_zero_zero s (!t) _ _, ⟨_, rfl⟩⟩

theorem sub_self {x : Nat} (hx : Fin x) : double.sub x x = some 0 := by
  unfold Format.sub
  obtain ⟨s, m, p, e, _⟩ := hx.read
  rw [e]
  show ((Datum.number s m p).sum (.number (!s) m p)).map double.write = _
  rw [sum_eq s (!s) m m p p (tot := 0) (by rw [signed_eq, signed_eq]; cases s <;> simp <;> omega), if_pos rfl]
  show some (double.nearest (s && !s) 0 _) = _
  rw [nearest_zero, word_eq]
  cases s <;> rfl

/-- A finite word and a zero: the word, or a zero where it is one. -/
theorem add_zero {x y : Nat} (hx : Fin x) (hy : Zr y) : ∃ z, double.add x y = some z ∧ Eqv z x := by
  obtain ⟨s, m, p, e1, e2, e3, e4, _⟩ := hx.read
  obtain ⟨t, f, _⟩ := hy.read
  unfold Format.add
  rw [e1, f]
  by_cases hm : m = 0
  · subst hm
    exact ⟨_, sum_zero_zero s t _ _, .inr ⟨⟨_, rfl⟩, (e3 rfl).1⟩⟩
  · exact ⟨_, sum_zero_right s t (by omega) e4, .inl e2⟩
/-- Nought, plus whatever zero, is nought. -/
theorem add_nought {y : Nat} (hy : Zr y) : double.add 0 y = some 0 := by
  obtain ⟨t, f, _⟩ := hy.read
  unfold Format.add
  rw [zero_read, f, sum_zero_zero, Bool.false_and, word_eq]
  rfl
/-- Nought, plus a finite word. -/
theorem nought_add {x : Nat} (hx : Fin x) : ∃ z, double.add 0 x = some z ∧ Eqv z x := by
  obtain ⟨s, m, p, e1, e2, e3, e4, _⟩ := hx.read
  unfold Format.add
  rw [zero_read, e1]
  by_cases hm : m = 0
  · subst hm
    exact ⟨_, sum_zero_zero false s _ _, .inr ⟨⟨_, rfl⟩, (e3 rfl).1⟩⟩
  · exact ⟨_, sum_zero_left false s (by omega) e4, .inl e2⟩
theorem sub_nought {x : Nat} (hx : Fin x) : double.sub x 0 = some x := by
  obtain ⟨s, m, p, e1, e2, e3, e4, _⟩ := hx.read
  unfold Format.sub
  rw [zero_read, e1]
  show ((Datum.number s m p).sum (.number true 0 (-1074))).map double.write = _
  by_cases hm : m = 0
  · subst hm
    rw [sum_zero_zero, Bool.and_true, ← e2, nearest_zero]
  · rw [sum_zero_right s true (by omega) e4, e2]

theorem mul_zero {x y : Nat} (hx : Fin x) (hy : Zr y) : ∃ z, double.mul x y = some z ∧ Zr z := by
  obtain ⟨s, m, p, e1, _⟩ := hx.read
  obtain ⟨t, f, _⟩ := hy.read
  unfold Format.mul
  rw [e1, f]
  refine ⟨double.word (s ^^ t) 0, ?_, ⟨_, rfl⟩⟩
  show some (double.nearest (s ^^ t) (m * 0) _) = _
  rw [Nat.mul_zero, nearest_zero]

theorem div_zero {x n : Nat} (hx : Zr x) (h1 : 1 ≤ n) (h2 : n < 2147483648) : ∃ z, double.div x (ofCount n) = some z ∧ Zr z := by
  obtain ⟨s, e, _⟩ := hx.read
  obtain ⟨m, j, f1, f2, _⟩ := ofCount_read h1 h2
  unfold Format.div
  rw [e, f1]
  refine ⟨double.word (s ^^ false) 0, ?_, ⟨_, rfl⟩⟩
  unfold Datum.quotient
  simp only [if_neg (show ¬ m = 0 by omega), Nat.shiftLeft_eq, Nat.zero_mul, Nat.zero_div, Nat.zero_mod]
  show some (double.nearest (s ^^ false) 0 _) = _
  rw [nearest_zero]

theorem one_read : double.read (ofCount 1) = .number false 4503599627370496 (-52) := by decide +kernel

/-- A finite word over one. -/
theorem div_one {x : Nat} (hx : Fin x) : double.div x (ofCount 1) = some x := by
  obtain ⟨s, m, p, e1, e2, e3, e4, e5⟩ := hx.read
  unfold Format.div
  rw [e1, one_read, d_frac]
  unfold Datum.quotient
  simp only [show ¬ (4503599627370496 : Nat) = 0 by omega, if_false, Nat.shiftLeft_eq]
  have l52 : (4503599627370496 : Nat).log2 = 52 := log2_52 (by omega) (by omega)
  have hl : m.log2 ≤ 52 := by
    by_cases hm : m = 0
    · subst hm; decide
    · exact log2_le_of (e := 52) (by have := pow53; omega) hm
  rw [l52]
  obtain ⟨u, hu⟩ : ∃ u, 52 + 2 + 52 - m.log2 = u + 52 := ⟨52 + 2 - m.log2, by omega⟩
  rw [hu, Nat.pow_add, pow52, ← Nat.mul_assoc, Nat.mul_div_cancel _ (by omega), Nat.mul_mod_left]
  show some (double.nearest (s ^^ false) (2 * (m * 2 ^ u) + 0) (p - -52 - ((u + 52 : Nat) : Int) - 1)) = _
  rw [Bool.xor_false, Nat.add_zero, show 2 * (m * 2 ^ u) = m * 2 ^ (u + 1) by rw [Nat.pow_succ, ← Nat.mul_assoc m, Nat.mul_comm 2], nearest_shift, show p - -52 - ((u + 52 : Nat) : Int) - 1 + ((u + 1 : Nat) : Int) = p by omega, e2]

theorem nan_read {x : Nat} (h : IsNaN x) : ∃ s t, double.read x = .nan s t := by
  obtain ⟨s, r, rfl, h1, h2⟩ := h
  exact ⟨s, _, read_nan s h1 h2⟩
theorem nan_add {x y : Nat} (h : IsNaN x) : double.add x y = none := by
  obtain ⟨s, t, e⟩ := nan_read h
  unfold Format.add
  rw [e]
  cases double.read y <;> rfl
theorem nan_order {x : Nat} (h : IsNaN x) (y : Nat) : double.order x y = none := by
  obtain ⟨s, t, e⟩ := nan_read h
  unfold Format.order
  rw [e]
  cases double.read y <;> rfl

/-- Words that are not NaNs. -/
def NotNaN (x : Nat) : Prop := ∃ s r, x = double.word s r ∧ r ≤ 9218868437227405312
theorem Fin.notNaN {x : Nat} (h : Fin x) : NotNaN x := by obtain ⟨s, r, e, hr⟩ := h; exact ⟨s, r, e, by omega⟩
theorem nan_or {x : Nat} (h : x < 18446744073709551616) : IsNaN x ∨ NotNaN x := by
  obtain ⟨s, r, e, hr⟩ := word_of h
  by_cases c : r ≤ 9218868437227405312
  · exact .inr ⟨s, r, e, c⟩
  · exact .inl ⟨s, r, e, by omega, hr⟩
theorem nearest_notNaN (s : Bool) (m : Nat) (p : Int) : NotNaN (double.nearest s m p) := by
  by_cases hm : m = 0
  · subst hm
    exact ⟨s, 0, nearest_zero _ _, by omega⟩
  · exact ⟨s, _, nearest_eq s hm p, Nat.min_le_right _ _⟩
/-- A word that is no NaN, and a finite one: no NaN comes of it. -/
theorem add_notNaN {x y : Nat} (hx : NotNaN x) (hy : Fin y) : ∃ z, double.add x y = some z ∧ NotNaN z := by
  obtain ⟨s, r, rfl, hr⟩ := hx
  obtain ⟨t, n, j, f, _⟩ := hy.read
  unfold Format.add
  rw [f]
  by_cases c : r < 9218868437227405312
  · obtain ⟨m, p, e, _⟩ := finite_word s c
    rw [e]
    exact ⟨_, rfl, nearest_notNaN _ _ _⟩
  · obtain rfl : r = 9218868437227405312 := by omega
    rw [read_inf]
    refine ⟨double.word s 9218868437227405312, ?_, ⟨s, _, rfl, Nat.le_refl _⟩⟩
    show some (double.word s double.infRung) = _
    rw [d_inf]
/-- An infinity, or a finite word, and a zero. -/
theorem add_keeps {x y : Nat} (hx : NotNaN x) (hy : Zr y) : ∃ z, double.add x y = some z ∧ Eqv z x ∧ NotNaN z := by
  obtain ⟨s, r, rfl, hr⟩ := hx
  by_cases c : r < 9218868437227405312
  · obtain ⟨z, e, h⟩ := add_zero ⟨s, r, rfl, c⟩ hy
    refine ⟨z, e, h, ?_⟩
    rcases h with rfl | ⟨h, _⟩
    · exact ⟨s, r, rfl, hr⟩
    · exact h.fin.notNaN
  · obtain rfl : r = 9218868437227405312 := by omega
    obtain ⟨t, f, _⟩ := hy.read
    unfold Format.add
    rw [read_inf, f]
    refine ⟨double.word s 9218868437227405312, ?_, .inl rfl, ⟨s, _, rfl, Nat.le_refl _⟩⟩
    show some (double.word s double.infRung) = _
    rw [d_inf]

theorem Sc.notNaN {k : Nat} {x y : Nat} (h : Sc k (-900) 900 x y) (hk : k ≤ 10) : NotNaN y := by
  obtain ⟨s, r, _, ⟨_, rfl⟩ | ⟨_, h2, rfl⟩⟩ := h
  · exact ⟨s, 0, rfl, by omega⟩
  · exact ⟨s, _, rfl, by omega⟩
theorem order_self {x : Nat} (h : NotNaN x) : double.order x x = some .eq := by
  obtain ⟨s, r, rfl, hr⟩ := h
  unfold Format.order
  by_cases c : r < 9218868437227405312
  · obtain ⟨m, p, e, _⟩ := finite_word s c
    rw [e, order_num]
    exact congrArg some (Int.compare_eq_eq.2 rfl)
  · obtain rfl : r = 9218868437227405312 := by omega
    rw [read_inf]
    cases s <;> rfl
theorem order_eqv {x y : Nat} (h : Eqv x y) (hx : NotNaN x) : double.order x y = some .eq := by
  rcases h with rfl | ⟨h1, h2⟩
  · exact order_self hx
  · obtain ⟨s, e, _⟩ := h1.read
    obtain ⟨t, f, _⟩ := h2.read
    unfold Format.order
    rw [e, f, order_num, signed_zero, signed_zero]
    rfl
theorem Eqv.fin {x y : Nat} (h : Eqv x y) (hy : Fin y) : Fin x := by
  rcases h with rfl | ⟨h, _⟩
  · exact hy
  · exact h.fin
theorem Eqv.trans {x y z : Nat} (h : Eqv x y) (k : Eqv y z) : Eqv x z := by
  rcases h with rfl | ⟨h1, h2⟩
  · exact k
  · rcases k with rfl | ⟨k1, k2⟩
    · exact .inr ⟨h1, h2⟩
    · exact .inr ⟨h1, k2⟩

/-- A word that is not finite, less itself: no answer. -/
theorem sub_self_none {x : Nat} (h : x < 18446744073709551616) (hx : ¬ Fin x) : double.sub x x = none := by
  obtain ⟨s, r, rfl, hr⟩ := word_of h
  have c : ¬ r < 9218868437227405312 := fun c => hx ⟨s, r, rfl, c⟩
  unfold Format.sub
  by_cases c2 : r = 9218868437227405312
  · subst c2
    rw [read_inf]
    cases s <;> rfl
  · rw [read_nan s (by omega) hr]
    rfl

end Go.Proofs.Qxb6617397a
