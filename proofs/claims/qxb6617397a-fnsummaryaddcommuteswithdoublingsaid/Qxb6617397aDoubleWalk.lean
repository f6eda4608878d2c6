/-
  DERIVED. THE WALK of 'an observation commutes with doubling'.
-/
import Derived.Test.Qxb6617397aWalks
namespace Go.Proofs.Qxb6617397a
open Go.RowKit
attribute [local go_sem] run_store_float

/-- Twice, four times: as the program reckons them. -/
theorem twice {x y : Nat} (h : Sc 1 (-300) 300 x y) : Ieee.double.mul 4611686018427387904 x = some y := by
  have := mul_const (c := 1) (by omega) h (by omega) (by omega)
  rw [word_eq] at this
  exact this
theorem fourfold {x y : Nat} (h : Sc 2 (-300) 300 x y) : Ieee.double.mul 4616189618054758400 x = some y := by
  have := mul_const (c := 2) (by omega) h (by omega) (by omega)
  rw [word_eq] at this
  exact this

/-- The door at numbers. -/
theorem door_at (n : Nat) (sum run sq x s1 r1 q1 : Nat) (w : World) (hn : (n : Int) ≤ 2147483648) (h : AddsTo n sum run sq x s1 r1 q1) :
    Calls Try.prog 6 #[.int .i64 n, .float .f64 sum, .float .f64 run, .float .f64 sq, .float .f64 x] w fun e w' =>
      e = .returned (.tuple #[.int .i64 ((n : Int) + 1), .float .f64 s1, .float .f64 r1, .float .f64 q1]) ∧ Below w.heap.size w w' := by
  obtain ⟨dl, qd, e, pr, a1, a2, a3, a4, a5, a6, a7⟩ := h.steps
  refine (door_any n sum run sq x w hn dl qd r1 e pr a2 a3 a4 a5 a6).mono ?_
  rintro e w' ⟨⟨s, q, rfl, p1, p2⟩, hb⟩
  rcases p1 with p1 | ⟨p1, _⟩
  · rcases p2 with p2 | ⟨p2, _⟩
    · rw [a1] at p1; rw [a7] at p2
      cases p1; cases p2
      exact ⟨rfl, hb⟩
    · rw [a7] at p2; cases p2
  · rw [a1] at p1; cases p1

set_option maxHeartbeats 400000 in
theorem dbl_main (n : Nat) (sum run sq x sum' run' sq' x' s1 r1 q1 s2 r2 q2 : Nat) (w : World) (hn : (n : Int) ≤ 1073741824)
    (i1 : inR sum = true) (i2 : inR run = true) (i3 : inR sq = true) (i4 : inR x = true)
    (t1 : Ieee.double.mul 4611686018427387904 sum = some sum') (t2 : Ieee.double.mul 4611686018427387904 run = some run') (t3 : Ieee.double.mul 4616189618054758400 sq = some sq') (t4 : Ieee.double.mul 4611686018427387904 x = some x')
    (h1 : AddsTo n sum run sq x s1 r1 q1) (h2 : AddsTo n sum' run' sq' x' s2 r2 q2)
    (m1 : Ieee.double.mul 4611686018427387904 s1 = some s2) (m2 : Ieee.double.mul 4611686018427387904 r1 = some r2) (m3 : Ieee.double.mul 4616189618054758400 q1 = some q2)
    (o1 : Ieee.double.order s2 s2 = some .eq) (o2 : Ieee.double.order r2 r2 = some .eq) (o3 : Ieee.double.order q2 q2 = some .eq) :
    Calls Try.prog 4 #[.int .i64 n, .float .f64 sum, .float .f64 run, .float .f64 sq, .float .f64 x] w fun e w' =>
      e = .returned (.bool true) ∧ Below w.heap.size w w' := by
  have b1 := fun w => run_float_arith (P := Try.prog) w .mul 22 .f64 _ _ _ t1
  have b2 := fun w => run_float_arith (P := Try.prog) w .mul 22 .f64 _ _ _ t2
  have b3 := fun w => run_float_arith (P := Try.prog) w .mul 22 .f64 _ _ _ t3
  have b4 := fun w => run_float_arith (P := Try.prog) w .mul 22 .f64 _ _ _ t4
  have c1 := fun w => run_float_arith (P := Try.prog) w .mul 22 .f64 _ _ _ m1
  have c2 := fun w => run_float_arith (P := Try.prog) w .mul 22 .f64 _ _ _ m2
  have c3 := fun w => run_float_arith (P := Try.prog) w .mul 22 .f64 _ _ _ m3
  have R1 := range_any sum
  have R2 := range_any run
  have R3 := range_any sq
  have R4 := range_any x
  rw [i1] at R1
  rw [i2] at R2
  rw [i3] at R3
  rw [i4] at R4
  have D1 := fun w => door_at n sum run sq x s1 r1 q1 w (by omega) h1
  have D2 := fun w => door_at n sum' run' sq' x' s2 r2 q2 w (by omega) h2
  replace o1 : FloatKind.f64.format.order s2 s2 = some .eq := o1
  replace o2 : FloatKind.f64.format.order r2 r2 = some .eq := o2
  replace o3 : FloatKind.f64.format.order q2 q2 = some .eq := o3
  clear i1 i2 i3 i4 t1 t2 t3 t4 m1 m2 m3 h1 h2
  have p1 : decide ((n : Int) < 0) = false := decide_eq_false (by omega)
  have p2 : decide ((1073741824 : Int) < n) = false := decide_eq_false (by omega)
  go_enter Try.func4, Try.ntmps4
  go_wp2_with fail
  refine (R1 _).mono ?_
  rintro e w' ⟨rfl, hw⟩
  rw [hw]
  go_wp2_with fail
  refine (R2 _).mono ?_
  rintro e w' ⟨rfl, hw⟩
  rw [hw]
  go_wp2_with fail
  refine (R3 _).mono ?_
  rintro e w' ⟨rfl, hw⟩
  rw [hw]
  go_wp2_with fail
  refine (R4 _).mono ?_
  rintro e w' ⟨rfl, hw⟩
  rw [hw]
  go_wp2_with fail
  refine (D1 _).mono ?_
  rintro e w1 ⟨rfl, hb1⟩
  go_wp2_with fail
  refine (D2 _).mono ?_
  rintro e w2 ⟨rfl, hb2⟩
  go_wp2_with fail
  go_ret
  exact ⟨rfl, hb1.trans (hb2.mono hb1.size)⟩

set_option maxHeartbeats 400000 in
theorem dbl_early (n : Int) (sum run sq x : Nat) (w : World) (h : n < 0 ∨ (0 ≤ n ∧ 1073741824 < n)) :
    Calls Try.prog 4 #[.int .i64 n, .float .f64 sum, .float .f64 run, .float .f64 sq, .float .f64 x] w fun e w' =>
      e = .returned (.bool true) ∧ Below w.heap.size w w' := by
  rcases h with h | ⟨h0, h⟩
  · have p1 : decide (n < 0) = true := decide_eq_true h
    go_enter Try.func4, Try.ntmps4
    go_wp2_with fail
    go_ret
    exact ⟨rfl, Below.refl _ _⟩
  · have p1 : decide (n < 0) = false := decide_eq_false (by omega)
    have p2 : decide ((1073741824 : Int) < n) = true := decide_eq_true h
    go_enter Try.func4, Try.ntmps4
    go_wp2_with fail
    go_ret
    exact ⟨rfl, Below.refl _ _⟩

set_option maxHeartbeats 400000 in
theorem dbl_out1 (n : Nat) (sum run sq x : Nat) (w : World) (hn : (n : Int) ≤ 1073741824) (i1 : inR sum = false) :
    Calls Try.prog 4 #[.int .i64 n, .float .f64 sum, .float .f64 run, .float .f64 sq, .float .f64 x] w fun e w' =>
      e = .returned (.bool true) ∧ Below w.heap.size w w' := by
  have R1 := range_any sum
  rw [i1] at R1
  clear i1
  have p1 : decide ((n : Int) < 0) = false := decide_eq_false (by omega)
  have p2 : decide ((1073741824 : Int) < n) = false := decide_eq_false (by omega)
  go_enter Try.func4, Try.ntmps4
  go_wp2_with fail
  refine (R1 _).mono ?_
  rintro e w' ⟨rfl, hw⟩
  rw [hw]
  go_wp2_with fail
  go_ret
  exact ⟨rfl, Below.refl _ _⟩

set_option maxHeartbeats 400000 in
theorem dbl_out2 (n : Nat) (sum run sq x : Nat) (w : World) (hn : (n : Int) ≤ 1073741824) (i1 : inR sum = true) (i2 : inR run = false) :
    Calls Try.prog 4 #[.int .i64 n, .float .f64 sum, .float .f64 run, .float .f64 sq, .float .f64 x] w fun e w' =>
      e = .returned (.bool true) ∧ Below w.heap.size w w' := by
  have R1 := range_any sum
  rw [i1] at R1
  have R2 := range_any run
  rw [i2] at R2
  clear i1 i2
  have p1 : decide ((n : Int) < 0) = false := decide_eq_false (by omega)
  have p2 : decide ((1073741824 : Int) < n) = false := decide_eq_false (by omega)
  go_enter Try.func4, Try.ntmps4
  go_wp2_with fail
  refine (R1 _).mono ?_
  rintro e w' ⟨rfl, hw⟩
  rw [hw]
  go_wp2_with fail
  refine (R2 _).mono ?_
  rintro e w' ⟨rfl, hw⟩
  rw [hw]
  go_wp2_with fail
  go_ret
  exact ⟨rfl, Below.refl _ _⟩

set_option maxHeartbeats 400000 in
theorem dbl_out3 (n : Nat) (sum run sq x : Nat) (w : World) (hn : (n : Int) ≤ 1073741824) (i1 : inR sum = true) (i2 : inR run = true) (i3 : inR sq = false) :
    Calls Try.prog 4 #[.int .i64 n, .float .f64 sum, .float .f64 run, .float .f64 sq, .float .f64 x] w fun e w' =>
      e = .returned (.bool true) ∧ Below w.heap.size w w' := by
  have R1 := range_any sum
  rw [i1] at R1
  have R2 := range_any run
  rw [i2] at R2
  have R3 := range_any sq
  rw [i3] at R3
  clear i1 i2 i3
  have p1 : decide ((n : Int) < 0) = false := decide_eq_false (by omega)
  have p2 : decide ((1073741824 : Int) < n) = false := decide_eq_false (by omega)
  go_enter Try.func4, Try.ntmps4
  go_wp2_with fail
  refine (R1 _).mono ?_
  rintro e w' ⟨rfl, hw⟩
  rw [hw]
  go_wp2_with fail
  refine (R2 _).mono ?_
  rintro e w' ⟨rfl, hw⟩
  rw [hw]
  go_wp2_with fail
  refine (R3 _).mono ?_
  rintro e w' ⟨rfl, hw⟩
  rw [hw]
  go_wp2_with fail
  go_ret
  exact ⟨rfl, Below.refl _ _⟩

set_option maxHeartbeats 400000 in
theorem dbl_out4 (n : Nat) (sum run sq x : Nat) (w : World) (hn : (n : Int) ≤ 1073741824) (i1 : inR sum = true) (i2 : inR run = true) (i3 : inR sq = true) (i4 : inR x = false) :
    Calls Try.prog 4 #[.int .i64 n, .float .f64 sum, .float .f64 run, .float .f64 sq, .float .f64 x] w fun e w' =>
      e = .returned (.bool true) ∧ Below w.heap.size w w' := by
  have R1 := range_any sum
  rw [i1] at R1
  have R2 := range_any run
  rw [i2] at R2
  have R3 := range_any sq
  rw [i3] at R3
  have R4 := range_any x
  rw [i4] at R4
  clear i1 i2 i3 i4
  have p1 : decide ((n : Int) < 0) = false := decide_eq_false (by omega)
  have p2 : decide ((1073741824 : Int) < n) = false := decide_eq_false (by omega)
  go_enter Try.func4, Try.ntmps4
  go_wp2_with fail
  refine (R1 _).mono ?_
  rintro e w' ⟨rfl, hw⟩
  rw [hw]
  go_wp2_with fail
  refine (R2 _).mono ?_
  rintro e w' ⟨rfl, hw⟩
  rw [hw]
  go_wp2_with fail
  refine (R3 _).mono ?_
  rintro e w' ⟨rfl, hw⟩
  rw [hw]
  go_wp2_with fail
  refine (R4 _).mono ?_
  rintro e w' ⟨rfl, hw⟩
  rw [hw]
  go_wp2_with fail
  go_ret
  exact ⟨rfl, Below.refl _ _⟩

theorem dbl_any (n : Int) (sum run sq x : Nat) (w : World) (h1 : sum < 18446744073709551616) (h2 : run < 18446744073709551616) (h3 : sq < 18446744073709551616) (h4 : x < 18446744073709551616) :
    Calls Try.prog 4 #[.int .i64 n, .float .f64 sum, .float .f64 run, .float .f64 sq, .float .f64 x] w fun e w' =>
      e = .returned (.bool true) ∧ Below w.heap.size w w' := by
  by_cases hn : 0 ≤ n ∧ n ≤ 1073741824
  · obtain ⟨m, rfl⟩ := Int.eq_ofNat_of_zero_le hn.1
    rcases i1 : inR sum
    · exact dbl_out1 m sum run sq x w hn.2 i1
    rcases i2 : inR run
    · exact dbl_out2 m sum run sq x w hn.2 i1 i2
    rcases i3 : inR sq
    · exact dbl_out3 m sum run sq x w hn.2 i1 i2 i3
    rcases i4 : inR x
    · exact dbl_out4 m sum run sq x w hn.2 i1 i2 i3 i4
    obtain ⟨sum', S⟩ := inR_sc h1 i1 1
    obtain ⟨run', R⟩ := inR_sc h2 i2 1
    obtain ⟨sq', Q⟩ := inR_sc h3 i3 2
    obtain ⟨x', X⟩ := inR_sc h4 i4 1
    obtain ⟨s1, r1, q1, s2, r2, q2, A1, A2, m1, m2, m3, S', R', Q'⟩ := doubling (n := m) (by omega) S R Q X
    exact dbl_main m sum run sq x sum' run' sq' x' s1 r1 q1 s2 r2 q2 w hn.2 i1 i2 i3 i4 (twice S) (twice R) (fourfold Q) (twice X) A1 A2 m1 m2 m3
      (order_self (S'.notNaN (by omega))) (order_self (R'.notNaN (by omega))) (order_self (Q'.notNaN (by omega)))
  · exact dbl_early n sum run sq x w (by omega)

end Go.Proofs.Qxb6617397a
