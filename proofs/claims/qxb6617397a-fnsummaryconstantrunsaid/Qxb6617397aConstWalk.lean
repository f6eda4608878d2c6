/-
  DERIVED. THE WALK of 'a constant run'.
-/
import Derived.Test.Qxb6617397aMean
namespace Go.Proofs.Qxb6617397a
open Go.RowKit
attribute [local go_sem] run_store_float

theorem order_nought : FloatKind.f64.format.order 0 0 = some .eq := by decide +kernel

/-- The state of the constant run behind k rounds. -/
structure RunAt (c : Nat) (w wr : World) (k sum r : Nat) : Prop where
  sum : NotNaN sum
  mean : Eqv r c ∨ (k = 0 ∧ r = 0)
  below : Below w.heap.size w wr

set_option maxHeartbeats 400000 in
theorem const_early (c : Nat) (k : Int) (w : World) (h : k < 1 ∨ (1 ≤ k ∧ 65536 < k)) :
    Calls Try.prog 3 #[.float .f64 c, .int .i64 k] w fun e w' => e = .returned (.bool true) ∧ Below w.heap.size w w' := by
  rcases h with h | ⟨h0, h⟩
  · have p1 : decide (k < 1) = true := decide_eq_true h
    go_enter Try.func3, Try.ntmps3
    go_wp2_with fail
    go_ret
    exact ⟨rfl, Below.refl _ _⟩
  · have p1 : decide (k < 1) = false := decide_eq_false (by omega)
    have p2 : decide ((65536 : Int) < k) = true := decide_eq_true h
    go_enter Try.func3, Try.ntmps3
    go_wp2_with fail
    go_ret
    exact ⟨rfl, Below.refl _ _⟩

set_option maxHeartbeats 400000 in
theorem const_nan (c : Nat) (k : Nat) (w : World) (h0 : (1 : Int) ≤ k) (h1 : (k : Int) ≤ 65536) (hs : Ieee.double.sub c c = none) :
    Calls Try.prog 3 #[.float .f64 c, .int .i64 k] w fun e w' => e = .returned (.bool true) ∧ Below w.heap.size w w' := by
  have p1 : decide ((k : Int) < 1) = false := decide_eq_false (by omega)
  have p2 : decide ((65536 : Int) < k) = false := decide_eq_false (by omega)
  have D := fun w => run_float_draws w .sub c c (.inr (.inl rfl)) hs
  have O : ∀ w, FloatKind.f64.format.order (nanAt c c w) 0 = none := fun w => nan_order (nanAt_nan c c w) 0
  clear hs
  go_enter Try.func3, Try.ntmps3
  go_wp2_with fail
  go_ret
  exact ⟨rfl, (Below.refl _ _).drew⟩

set_option maxHeartbeats 400000 in
theorem const_main (c : Nat) (k : Nat) (w : World) (h0 : (1 : Int) ≤ k) (h1 : (k : Int) ≤ 65536) (hc : Fin c) :
    Calls Try.prog 3 #[.float .f64 c, .int .i64 k] w fun e w' => e = .returned (.bool true) ∧ Below w.heap.size w w' := by
  have p1 : decide ((k : Int) < 1) = false := decide_eq_false (by omega)
  have p2 : decide ((65536 : Int) < k) = false := decide_eq_false (by omega)
  have D := fun w => run_float_arith (P := Try.prog) w .sub 22 .f64 c c 0 (sub_self hc)
  have O := order_nought
  have HC := hideN hc
  clear hc
  go_enter Try.func3, Try.ntmps3
  go_wp2_with fail
  go_loopw [5, 6, 7, 8, 9, 10] (fun vn vs vr vq vw vi wr => ∃ (i sum r : Nat), i ≤ k ∧ vn = .int .i64 i ∧ vs = .float .f64 sum ∧ vr = .float .f64 r ∧ vq = .float .f64 0 ∧ vw = .float .f64 sum ∧ vi = .int .i64 i ∧ Hid (RunAt c w wr i sum r)) (fun _ _ _ _ _ v _ => k - (intOf v).toNat)
  case atStart => exact ⟨0, 0, 0, by omega, rfl, rfl, rfl, rfl, rfl, rfl, hideN ⟨⟨false, 0, by rw [word_eq]; rfl, by omega⟩, .inr ⟨rfl, rfl⟩, Below.refl _ _⟩⟩
  case round =>
    obtain ⟨i, sum, r, hi, rfl, rfl, rfl, rfl, rfl, rfl, HI⟩ := hrel
    by_cases hlt : i < k
    · obtain ⟨z, hz, hn⟩ := add_notNaN HI.out.sum HC.out
      have HZ := hideN hz
      have HN := hideN hn
      have A := fun w => run_float_arith (P := Try.prog) w .add 22 .f64 sum c z hz
      clear hz hn
      have hik : (i : Int) < (k : Int) := by omega
      go_wp2_with fail
      refine (door_mean i sum r 0 c _ (by omega) HC.out HI.out.mean).mono ?_
      rintro e w' ⟨⟨s1, r1, q1, rfl, e1, e2, pr, e3, e4⟩, hb⟩
      obtain rfl : s1 = z := by
        rcases e2 with e2 | ⟨e2, _⟩ <;> rw [HZ.out] at e2 <;> cases e2
        rfl
      obtain rfl : q1 = 0 := by
        rcases e4 with e4 | ⟨e4, _⟩ <;> rw [add_nought e3] at e4 <;> cases e4
        rfl
      have HE := hideN e1
      have HB := hideN (HI.out.below.trans (hb.mono HI.out.below.size))
      clear e1 e2 e3 e4 hb HI HZ
      go_wp2_with fail
      go_roundw
      case rel => exact ⟨i + 1, s1, r1, by omega, by go_num, rfl, rfl, rfl, rfl, by go_num, hideN ⟨HN.out, .inl HE.out, HB.out⟩⟩
      case measure => simp [intOf]; omega
    · obtain rfl : i = k := by omega
      have hm : Eqv r c := by
        rcases HI.out.mean with h | ⟨h, _⟩
        · exact h
        · omega
      have O2 : FloatKind.f64.format.order r c = some .eq := order_eqv hm (hm.fin HC.out).notNaN
      have S := fun w => same_any sum sum w (.inl (order_self HI.out.sum))
      clear hm
      go_wp2_with fail
      refine (S _).mono ?_
      rintro e w' ⟨rfl, hw⟩
      rw [hw]
      go_wp2_with fail
      go_ret
      exact ⟨rfl, HI.out.below⟩

theorem const_any (c : Nat) (k : Int) (w : World) (hc : c < 18446744073709551616) :
    Calls Try.prog 3 #[.float .f64 c, .int .i64 k] w fun e w' => e = .returned (.bool true) ∧ Below w.heap.size w w' := by
  by_cases hk : 1 ≤ k ∧ k ≤ 65536
  · obtain ⟨m, rfl⟩ := Int.eq_ofNat_of_zero_le (show 0 ≤ k by omega)
    by_cases hf : Fin c
    · exact const_main c m w hk.1 hk.2 hf
    · exact const_nan c m w hk.1 hk.2 (sub_self_none hc hf)
  · exact const_early c k w (by omega)

end Go.Proofs.Qxb6617397a
