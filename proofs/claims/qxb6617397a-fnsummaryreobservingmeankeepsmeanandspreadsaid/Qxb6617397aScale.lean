/-
  Scaling by a power of two commutes with +, -, *, / and their rounding as long as nothing leaves the normal range. No Go in sight.
-/
import Derived.Test.Qxb6617397aWords
namespace Go.Proofs.Qxb6617397a
open Ieee

/-- x is a zero, or its magnitude lies in [2^a, 2^(b+1)); y is x times 2^k. -/
def Sc (k : Nat) (a b : Int) (x y : Nat) : Prop :=
  ∃ s r, x = double.word s r ∧ ((r = 0 ∧ y = double.word s 0) ∨ ((a + 1023) * 4503599627370496 ≤ (r : Int) ∧ (r : Int) < (b + 1024) * 4503599627370496 ∧ y = double.word s (r + k * 4503599627370496)))

theorem Sc.mono {k : Nat} {a b c d : Int} {x y : Nat} (h : Sc k a b x y) (h1 : c ≤ a) (h2 : b ≤ d) : Sc k c d x y := by
  obtain ⟨s, r, e, h⟩ := h
  refine ⟨s, r, e, ?_⟩
  rcases h with h | ⟨q1, q2, q3⟩
  · exact .inl h
  · exact .inr ⟨by omega, by omega, q3⟩

/-- What the two words of a pair read as: one magnitude, two places. -/
def Part (k : Nat) (a b : Int) (m : Nat) (i i' : Int) : Prop :=
  (m = 0 ∧ i = -1074 ∧ i' = -1074) ∨ (4503599627370496 ≤ m ∧ m < 9007199254740992 ∧ i' = i + k ∧ a - 52 ≤ i ∧ i ≤ b - 52)

theorem Sc.read {k : Nat} {a b : Int} {x y : Nat} (h : Sc k a b x y) (ha : -1000 ≤ a) (hb : b ≤ 1000) (hk : k ≤ 10) :
    ∃ s m i i', double.read x = .number s m i ∧ double.read y = .number s m i' ∧ Part k a b m i i' := by
  obtain ⟨s, r, rfl, h⟩ := h
  rcases h with ⟨rfl, rfl⟩ | ⟨q1, q2, rfl⟩
  · exact ⟨s, 0, -1074, -1074, read_sub s (by omega), read_sub s (by omega), .inl ⟨rfl, rfl, rfl⟩⟩
  · refine ⟨s, _, _, _, read_normal s (by omega) (by omega), ?_, .inr ⟨by omega, by omega, rfl, by omega, by omega⟩⟩
    rw [read_normal s (by omega) (by omega)]
    congr 1 <;> omega

/-- Two results of one magnitude, rounded. -/
theorem Sc.mk {k : Nat} {a b : Int} (sg : Bool) (T : Nat) {p p' : Int} (hp : T ≠ 0 → p' = p + k ∧ a ≤ p + T.log2 ∧ p + T.log2 ≤ b) (ha : -1022 ≤ a) (hb : b ≤ 1000) (hk : k ≤ 10) : Sc k a (b + 1) (double.nearest sg T p) (double.nearest sg T p') := by
  by_cases hT : T = 0
  · subst hT
    exact ⟨sg, 0, nearest_zero _ _, .inl ⟨rfl, nearest_zero _ _⟩⟩
  · obtain ⟨e, h1, h2⟩ := hp hT
    obtain ⟨r, q0, q1, q2, q3⟩ := nearest_rung sg hT h1 h2 ha hb
    refine ⟨sg, r, q0, .inr ⟨q1, by omega, ?_⟩⟩
    rw [e]
    exact q3 k hk

theorem signed_eq (s : Bool) (m u : Nat) : signed s m u = if s then -((m * 2 ^ u : Nat) : Int) else ((m * 2 ^ u : Nat) : Int) := by unfold signed; rw [Nat.shiftLeft_eq]
theorem signed_zero (s : Bool) (u : Nat) : signed s 0 u = 0 := by rw [signed_eq]; cases s <;> simp

theorem log2_le_of {n e : Nat} (h : n < 2 ^ (e + 1)) (hn : n ≠ 0) : n.log2 ≤ e := by
  have a := Nat.log2_self_le hn
  have : ¬ e < n.log2 := fun q => by
    have : 2 ^ (e + 1) ≤ 2 ^ n.log2 := Nat.pow_le_pow_right (by omega) (by omega)
    omega
  omega

theorem pow53 : (2 : Nat) ^ 53 = 9007199254740992 := by decide
theorem pow52 : (2 : Nat) ^ 52 = 4503599627370496 := by decide

theorem sgn_abs (t : Bool) (N : Nat) : (if t then -(N : Int) else (N : Int)).natAbs = N := by cases t <;> simp
theorem sgn_neg (t : Bool) {N : Nat} (h : 0 < N) : decide ((if t then -(N : Int) else (N : Int)) < 0) = t := by cases t <;> simp <;> omega
theorem sgn_ne (t : Bool) {N : Nat} (h : 0 < N) : (if t then -(N : Int) else (N : Int)) ≠ 0 := by cases t <;> simp <;> omega

theorem sum_eq (s t : Bool) (m n : Nat) (i j : Int) {tot : Int} (h : signed s m (i - min i j).toNat + signed t n (j - min i j).toNat = tot) :
    ((Datum.number s m i).sum (.number t n j)).map double.write = some (double.nearest (if tot = 0 then s && t else decide (tot < 0)) tot.natAbs (min i j)) := by
  subst h
  rfl

/-- A zero and a number: the number, rounded. -/
theorem sum_zero_left (s t : Bool) {n : Nat} (hn : 0 < n) {q : Int} (hq : -1074 ≤ q) : ((Datum.number s 0 (-1074)).sum (.number t n q)).map double.write = some (double.nearest t n q) := by
  have e1 : min (-1074) q = -1074 := by omega
  have hpos : 0 < n * 2 ^ (q - -1074).toNat := Nat.mul_pos hn (Nat.two_pow_pos _)
  rw [sum_eq s t 0 n (-1074) q (tot := if t then -((n * 2 ^ (q - -1074).toNat : Nat) : Int) else ((n * 2 ^ (q - -1074).toNat : Nat) : Int)) (by rw [e1, signed_zero, Int.zero_add, signed_eq])]
  rw [if_neg (sgn_ne t hpos), sgn_neg t hpos, sgn_abs, e1, nearest_shift, show -1074 + ((q - -1074).toNat : Int) = q by omega]
theorem sum_zero_right (s t : Bool) {n : Nat} (hn : 0 < n) {q : Int} (hq : -1074 ≤ q) : ((Datum.number s n q).sum (.number t 0 (-1074))).map double.write = some (double.nearest s n q) := by
  have e1 : min q (-1074) = -1074 := by omega
  have hpos : 0 < n * 2 ^ (q - -1074).toNat := Nat.mul_pos hn (Nat.two_pow_pos _)
  rw [sum_eq s t n 0 q (-1074) (tot := if s then -((n * 2 ^ (q - -1074).toNat : Nat) : Int) else ((n * 2 ^ (q - -1074).toNat : Nat) : Int)) (by rw [e1, signed_zero, Int.add_zero, signed_eq])]
  rw [if_neg (sgn_ne s hpos), sgn_neg s hpos, sgn_abs, e1, nearest_shift, show -1074 + ((q - -1074).toNat : Int) = q by omega]
theorem sum_zero_zero (s t : Bool) (i j : Int) : ((Datum.number s 0 i).sum (.number t 0 j)).map double.write = some (double.word (s && t) 0) := by
  rw [sum_eq s t 0 0 i j (tot := 0) (by rw [signed_zero, signed_zero]; rfl), if_pos rfl]
  exact congrArg some (nearest_zero _ _)

theorem signed_lt (s : Bool) {m u : Nat} (h : m < 9007199254740992) : (signed s m u).natAbs < 2 ^ (53 + u) := by
  rw [signed_eq, sgn_abs, Nat.pow_add, pow53]
  exact Nat.mul_lt_mul_of_pos_right h (Nat.two_pow_pos u)

/-- The sum of two pairs is a pair. -/
theorem sum_sc {k : Nat} {a b : Int} (s t : Bool) {m n : Nat} {i i' j j' : Int} (hx : Part k a b m i i') (hy : Part k a b n j j') (ha : -900 ≤ a) (hb : b ≤ 900) (hk : k ≤ 10) :
    ∃ z z', ((Datum.number s m i).sum (.number t n j)).map double.write = some z ∧ ((Datum.number s m i').sum (.number t n j')).map double.write = some z' ∧ Sc k (a - 52) (b + 2) z z' := by
  rcases hx with ⟨rfl, rfl, rfl⟩ | ⟨m1, m2, rfl, m3, m4⟩
  · rcases hy with ⟨rfl, rfl, rfl⟩ | ⟨n1, n2, rfl, n3, n4⟩
    · exact ⟨_, _, sum_zero_zero s t _ _, sum_zero_zero s t _ _, ⟨s && t, 0, rfl, .inl ⟨rfl, rfl⟩⟩⟩
    · refine ⟨_, _, sum_zero_left s t (by omega) (by omega), sum_zero_left s t (by omega) (by omega), ?_⟩
      have hl := log2_52 n1 n2
      exact (Sc.mk (a := a) (b := b) t n (fun _ => ⟨rfl, by rw [hl]; omega, by rw [hl]; omega⟩) (by omega) (by omega) hk).mono (by omega) (by omega)
  · rcases hy with ⟨rfl, rfl, rfl⟩ | ⟨n1, n2, rfl, n3, n4⟩
    · refine ⟨_, _, sum_zero_right s t (by omega) (by omega), sum_zero_right s t (by omega) (by omega), ?_⟩
      have hl := log2_52 m1 m2
      exact (Sc.mk (a := a) (b := b) s m (fun _ => ⟨rfl, by rw [hl]; omega, by rw [hl]; omega⟩) (by omega) (by omega) hk).mono (by omega) (by omega)
    · obtain ⟨tot, htot⟩ : ∃ tot, signed s m (i - min i j).toNat + signed t n (j - min i j).toNat = tot := ⟨_, rfl⟩
      have htot' : signed s m (i + k - min (i + k) (j + k)).toNat + signed t n (j + k - min (i + k) (j + k)).toNat = tot := by
        rw [show i + (k : Int) - min (i + k) (j + k) = i - min i j by omega, show j + (k : Int) - min (i + k) (j + k) = j - min i j by omega]
        exact htot
      refine ⟨_, _, sum_eq s t m n i j htot, sum_eq s t m n _ _ htot', ?_⟩
      refine (Sc.mk (a := a - 52) (b := b + 1) _ _ (fun h0 => ⟨by omega, by omega, ?_⟩) (by omega) (by omega) hk).mono (by omega) (by omega)
      obtain ⟨u, hu⟩ : ∃ u : Nat, (u : Int) = max i j - min i j := ⟨(max i j - min i j).toNat, by omega⟩
      have b1 := signed_lt s (u := (i - min i j).toNat) m2
      have b2 := signed_lt t (u := (j - min i j).toNat) n2
      have p1 : 2 ^ (53 + (i - min i j).toNat) ≤ 2 ^ (53 + u) := Nat.pow_le_pow_right (by omega) (by omega)
      have p2 : 2 ^ (53 + (j - min i j).toNat) ≤ 2 ^ (53 + u) := Nat.pow_le_pow_right (by omega) (by omega)
      have p3 : 2 ^ (53 + u + 1) = 2 * 2 ^ (53 + u) := by rw [Nat.pow_succ, Nat.mul_comm]
      have hlog := log2_le_of (n := tot.natAbs) (e := 53 + u) (by omega) h0
      omega

/-- The product of two pairs is a pair. -/
theorem prod_sc {k l : Nat} {a b c d : Int} (s t : Bool) {m n : Nat} {i i' j j' : Int} (hx : Part k a b m i i') (hy : Part l c d n j j') (ha : -1000 ≤ a + c) (hb : b + d ≤ 900) (hk : k + l ≤ 10) :
    ∃ z z', ((Datum.number s m i).product (.number t n j)).map double.write = some z ∧ ((Datum.number s m i').product (.number t n j')).map double.write = some z' ∧ Sc (k + l) (a + c) (b + d + 2) z z' := by
  refine ⟨double.nearest (s ^^ t) (m * n) (i + j), double.nearest (s ^^ t) (m * n) (i' + j'), rfl, rfl, ?_⟩
  refine (Sc.mk (a := a + c) (b := b + d + 1) _ _ (fun h0 => ?_) (by omega) (by omega) hk).mono (by omega) (by omega)
  rcases hx with ⟨rfl, rfl, rfl⟩ | ⟨m1, m2, rfl, m3, m4⟩
  · simp at h0
  · rcases hy with ⟨rfl, rfl, rfl⟩ | ⟨n1, n2, rfl, n3, n4⟩
    · simp at h0
    · have u1 : m * n < 2 ^ (105 + 1) := by
        have : m * n < 9007199254740992 * 9007199254740992 := Nat.mul_lt_mul_of_lt_of_le m2 (Nat.le_of_lt n2) (by omega)
        have e : (2 : Nat) ^ (105 + 1) = 9007199254740992 * 9007199254740992 := by decide
        omega
      have hlog := log2_le_of u1 h0
      have u2 : 104 ≤ (m * n).log2 := by
        have q1 : 4503599627370496 * 4503599627370496 ≤ m * n := Nat.mul_le_mul m1 n1
        have q2 : m * n < 2 ^ ((m * n).log2 + 1) := Nat.lt_log2_self
        have : ¬ (m * n).log2 < 104 := fun q => by
          have : 2 ^ ((m * n).log2 + 1) ≤ 2 ^ 104 := Nat.pow_le_pow_right (by omega) (by omega)
          have e : (2 : Nat) ^ 104 = 4503599627370496 * 4503599627370496 := by decide
          omega
        omega
      exact ⟨by omega, by omega, by omega⟩

/-- The quotient of a pair and a number between 1 and 2^31 is a pair. -/
theorem quot_sc {k : Nat} {a b : Int} (s t : Bool) {m n : Nat} {i i' j : Int} (hx : Part k a b m i i') (n1 : 4503599627370496 ≤ n) (n2 : n < 9007199254740992) (n3 : -52 ≤ j) (n4 : j ≤ -21) (ha : -900 ≤ a) (hb : b ≤ 900) (hk : k ≤ 10) :
    ∃ z z', ((Datum.number s m i).quotient 54 (.number t n j)).map double.write = some z ∧ ((Datum.number s m i').quotient 54 (.number t n j)).map double.write = some z' ∧ Sc k (a - 32) (b + 1) z z' := by
  have key : ∀ q : Int, ((Datum.number s m q).quotient 54 (.number t n j)).map double.write = some (double.nearest (s ^^ t) (2 * (m * 2 ^ (54 + n.log2 - m.log2) / n) + (m * 2 ^ (54 + n.log2 - m.log2) % n != 0).toNat) (q - j - ((54 + n.log2 - m.log2 : Nat) : Int) - 1)) := by
    intro q
    unfold Datum.quotient
    simp only [if_neg (show ¬ n = 0 by omega), Nat.shiftLeft_eq]
    rfl
  refine ⟨_, _, key i, key i', ?_⟩
  refine (Sc.mk (a := a - 32) (b := b) _ _ (fun h0 => ?_) (by omega) (by omega) hk).mono (by omega) (by omega)
  rcases hx with ⟨rfl, rfl, rfl⟩ | ⟨m1, m2, rfl, m3, m4⟩
  · simp at h0
  · have lm := log2_52 m1 m2
    have ln := log2_52 n1 n2
    rw [lm, ln] at h0 ⊢
    have e54 : (2 : Nat) ^ (54 + 52 - 52) = 18014398509481984 := by decide
    rw [e54] at h0 ⊢
    have d1 : 9007199254740992 ≤ m * 18014398509481984 / n := by rw [Nat.le_div_iff_mul_le (by omega)]; omega
    have d2 : m * 18014398509481984 / n < 36028797018963968 := by rw [Nat.div_lt_iff_lt_mul (by omega)]; omega
    obtain ⟨Q, hQ⟩ : ∃ Q, Q = 2 * (m * 18014398509481984 / n) + (m * 18014398509481984 % n != 0).toNat := ⟨_, rfl⟩
    have hs : (m * 18014398509481984 % n != 0).toNat ≤ 1 := Bool.toNat_le _
    rw [← hQ] at h0 ⊢
    have u1 : Q < 2 ^ (55 + 1) := by
      have e : (2 : Nat) ^ (55 + 1) = 72057594037927936 := by decide
      omega
    have hlog := log2_le_of u1 h0
    have u2 : 54 ≤ Q.log2 := by
      have q2 : Q < 2 ^ (Q.log2 + 1) := Nat.lt_log2_self
      have : ¬ Q.log2 < 54 := fun q => by
        have : 2 ^ (Q.log2 + 1) ≤ 2 ^ 54 := Nat.pow_le_pow_right (by omega) (by omega)
        have e : (2 : Nat) ^ 54 = 18014398509481984 := by decide
        omega
      omega
    exact ⟨by omega, by omega, by omega⟩

end Go.Proofs.Qxb6617397a
