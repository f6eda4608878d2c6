/-
  The plain law of 'add commutes with doubling': the summary's arithmetic on words, run twice, on a state and on the doubled one. No Go in sight.
-/
import Derived.Test.Qxb6617397aScale
namespace Go.Proofs.Qxb6617397a
open Ieee

theorem add_sc {k : Nat} {a b : Int} {x x' y y' : Nat} (hx : Sc k a b x x') (hy : Sc k a b y y') (ha : -900 ≤ a) (hb : b ≤ 900) (hk : k ≤ 10) :
    ∃ z z', double.add x y = some z ∧ double.add x' y' = some z' ∧ Sc k (a - 52) (b + 2) z z' := by
  obtain ⟨s, m, i, i', e1, e2, p1⟩ := hx.read (by omega) (by omega) hk
  obtain ⟨t, n, j, j', f1, f2, p2⟩ := hy.read (by omega) (by omega) hk
  unfold Format.add
  rw [e1, e2, f1, f2]
  exact sum_sc s t p1 p2 ha hb hk
theorem sub_sc {k : Nat} {a b : Int} {x x' y y' : Nat} (hx : Sc k a b x x') (hy : Sc k a b y y') (ha : -900 ≤ a) (hb : b ≤ 900) (hk : k ≤ 10) :
    ∃ z z', double.sub x y = some z ∧ double.sub x' y' = some z' ∧ Sc k (a - 52) (b + 2) z z' := by
  obtain ⟨s, m, i, i', e1, e2, p1⟩ := hx.read (by omega) (by omega) hk
  obtain ⟨t, n, j, j', f1, f2, p2⟩ := hy.read (by omega) (by omega) hk
  unfold Format.sub
  rw [e1, e2, f1, f2]
  exact sum_sc s (!t) p1 p2 ha hb hk
theorem mul_sc {k l : Nat} {a b c d : Int} {x x' y y' : Nat} (hx : Sc k a b x x') (hy : Sc l c d y y') (ha : -900 ≤ a) (hb : b ≤ 900) (hc : -900 ≤ c) (hd : d ≤ 900) (hk : k + l ≤ 10) (h1 : -1000 ≤ a + c) (h2 : b + d ≤ 900) :
    ∃ z z', double.mul x y = some z ∧ double.mul x' y' = some z' ∧ Sc (k + l) (a + c) (b + d + 2) z z' := by
  obtain ⟨s, m, i, i', e1, e2, p1⟩ := hx.read (by omega) (by omega) (by omega)
  obtain ⟨t, n, j, j', f1, f2, p2⟩ := hy.read (by omega) (by omega) (by omega)
  unfold Format.mul
  rw [e1, e2, f1, f2]
  exact prod_sc s t p1 p2 h1 h2 hk

/-- A count as a float. -/
def ofCount (n : Nat) : Nat := double.nearest false n 0

theorem ofCount_read {n : Nat} (h1 : 1 ≤ n) (h2 : n < 2147483648) : ∃ m j, double.read (ofCount n) = .number false m j ∧ 4503599627370496 ≤ m ∧ m < 9007199254740992 ∧ -52 ≤ j ∧ j ≤ -21 := by
  have hn : n ≠ 0 := by omega
  have e31 : (2 : Nat) ^ (30 + 1) = 2147483648 := by decide
  have hl : n.log2 ≤ 30 := log2_le_of (e := 30) (by omega) hn
  obtain ⟨r, e, q1, q2, _⟩ := nearest_rung false hn (p := 0) (a := 0) (b := 30) (by omega) (by omega) (by omega) (by omega)
  unfold ofCount
  rw [e, read_normal false (by omega) (by omega)]
  exact ⟨_, _, rfl, by omega, by omega, by omega, by omega⟩

theorem div_sc {k : Nat} {a b : Int} {x x' n : Nat} (hx : Sc k a b x x') (h1 : 1 ≤ n) (h2 : n < 2147483648) (ha : -900 ≤ a) (hb : b ≤ 900) (hk : k ≤ 10) :
    ∃ z z', double.div x (ofCount n) = some z ∧ double.div x' (ofCount n) = some z' ∧ Sc k (a - 32) (b + 1) z z' := by
  obtain ⟨s, m, i, i', e1, e2, p1⟩ := hx.read (by omega) (by omega) hk
  obtain ⟨q, j, f1, f2, f3, f4, f5⟩ := ofCount_read h1 h2
  unfold Format.div
  rw [e1, e2, f1, d_frac]
  exact quot_sc s false p1 f2 f3 f4 f5 ha hb hk

/-- x times 2^c, c = 1 or 2, is the word that stands to it so. -/
theorem mul_const {c : Nat} (hc : c ≤ 2) {a b : Int} {x y : Nat} (h : Sc c a b x y) (ha : -900 ≤ a) (hb : b ≤ 900) : double.mul (double.word false ((1023 + c) * 4503599627370496)) x = some y := by
  have rc : double.read (double.word false ((1023 + c) * 4503599627370496)) = .number false 4503599627370496 ((c : Int) - 52) := by
    rw [read_normal false (by omega) (by omega)]
    congr 1 <;> omega
  obtain ⟨s, r, rfl, h⟩ := h
  unfold Format.mul
  rw [rc]
  rcases h with ⟨rfl, rfl⟩ | ⟨q1, q2, rfl⟩
  · rw [read_sub s (by omega)]
    show some (double.nearest (false ^^ s) (4503599627370496 * 0) _) = _
    rw [Nat.mul_zero, nearest_zero, Bool.false_xor]
  · obtain ⟨m', p', g1, g2, _⟩ := finite_word s (r := r + c * 4503599627370496) (by omega)
    rw [read_normal s (by omega) (by omega)] at g1
    simp only [Datum.number.injEq, true_and] at g1
    obtain ⟨g3, g4⟩ := g1
    rw [read_normal s (by omega) (by omega)]
    show some (double.nearest (false ^^ s) (4503599627370496 * (4503599627370496 + r % 4503599627370496)) (((c : Int) - 52) + (-1074 + ((r / 4503599627370496 - 1 : Nat) : Int)))) = _
    rw [Bool.false_xor, Nat.mul_comm 4503599627370496, ← pow52, nearest_shift, ← g2, ← g3, ← g4, pow52]
    congr 2 <;> omega

/-- What one add does to the four fields, on words: all its operations are valid, and come to these. -/
structure AddsTo (n sum run sq x : Nat) (s1 r1 q1 : Nat) : Prop where
  steps : ∃ dl qd e pr, double.add sum x = some s1 ∧ double.sub x run = some dl ∧ double.div dl (ofCount (n + 1)) = some qd ∧ double.add run qd = some r1 ∧ double.sub x r1 = some e ∧ double.mul dl e = some pr ∧ double.add sq pr = some q1

theorem doubling {n sum run sq x sum' run' sq' x' : Nat} (hn : n ≤ 1073741824) (hs : Sc 1 (-300) 300 sum sum') (hr : Sc 1 (-300) 300 run run') (hq : Sc 2 (-300) 300 sq sq') (hx : Sc 1 (-300) 300 x x') :
    ∃ s1 r1 q1 s2 r2 q2, AddsTo n sum run sq x s1 r1 q1 ∧ AddsTo n sum' run' sq' x' s2 r2 q2 ∧ double.mul 4611686018427387904 s1 = some s2 ∧ double.mul 4611686018427387904 r1 = some r2 ∧ double.mul 4616189618054758400 q1 = some q2 ∧ Sc 1 (-900) 900 s1 s2 ∧ Sc 1 (-900) 900 r1 r2 ∧ Sc 2 (-900) 900 q1 q2 := by
  obtain ⟨s1, s2, a1, a2, S⟩ := add_sc hs hx (by omega) (by omega) (by omega)
  obtain ⟨d1, d2, b1, b2, Dl⟩ := sub_sc hx hr (by omega) (by omega) (by omega)
  obtain ⟨q1, q2, c1, c2, Qd⟩ := div_sc (n := n + 1) Dl (by omega) (by omega) (by omega) (by omega) (by omega)
  obtain ⟨r1, r2, e1, e2, R⟩ := add_sc (hr.mono (c := -384) (d := 303) (by omega) (by omega)) (Qd.mono (by omega) (by omega)) (by omega) (by omega) (by omega)
  obtain ⟨x1, x2, f1, f2, X⟩ := sub_sc (hx.mono (c := -436) (d := 305) (by omega) (by omega)) (R.mono (by omega) (by omega)) (by omega) (by omega) (by omega)
  obtain ⟨p1, p2, g1, g2, Pr⟩ := mul_sc Dl X (by omega) (by omega) (by omega) (by omega) (by omega) (by omega) (by omega)
  obtain ⟨u1, u2, h1, h2, U⟩ := add_sc (hq.mono (c := -840) (d := 611) (by omega) (by omega)) (Pr.mono (by omega) (by omega)) (by omega) (by omega) (by omega)
  refine ⟨s1, r1, u1, s2, r2, u2, ⟨d1, q1, x1, p1, a1, b1, c1, e1, f1, g1, h1⟩, ⟨d2, q2, x2, p2, a2, b2, c2, e2, f2, g2, h2⟩, ?_, ?_, ?_, S.mono (by omega) (by omega), R.mono (by omega) (by omega), U.mono (by omega) (by omega)⟩
  · have := mul_const (c := 1) (by omega) S (by omega) (by omega)
    rw [word_eq] at this
    exact this
  · have := mul_const (c := 1) (by omega) R (by omega) (by omega)
    rw [word_eq] at this
    exact this
  · have := mul_const (c := 2) (by omega) U (by omega) (by omega)
    rw [word_eq] at this
    exact this

end Go.Proofs.Qxb6617397a
