/-
  DERIVED. THE WALK of 'observing the mean again'.
-/
import Derived.Test.Qxb6617397aMean
namespace Go.Proofs.Qxb6617397a
open Go.RowKit
attribute [local go_sem] run_store_float

theorem order_nought' : FloatKind.f64.format.order 0 0 = some .eq := by decide +kernel

/-- The state behind some rounds: the total and what is wanted; the mean; the squares. -/
structure AgainAt (run sq : Nat) (w wr : World) (s t r q : Nat) : Prop where
  sum : Tot s t
  mean : Eqv r run
  squares : Kept q sq
  below : Below w.heap.size w wr

set_option maxHeartbeats 400000 in
theorem again_early (n : Int) (sum run sq : Nat) (k : Int) (w : World) (h : n < 0 ∨ (0 ≤ n ∧ 1073741824 < n)) :
    Calls Try.prog 5 #[.int .i64 n, .float .f64 sum, .float .f64 run, .float .f64 sq, .int .i64 k] w fun e w' => e = .returned (.bool true) ∧ Below w.heap.size w w' := by
  rcases h with h | ⟨h0, h⟩
  · have p1 : decide (n < 0) = true := decide_eq_true h
    go_enter Try.func5, Try.ntmps5
    go_wp2_with fail
    go_ret
    exact ⟨rfl, Below.refl _ _⟩
  · have p1 : decide (n < 0) = false := decide_eq_false (by omega)
    have p2 : decide ((1073741824 : Int) < n) = true := decide_eq_true h
    go_enter Try.func5, Try.ntmps5
    go_wp2_with fail
    go_ret
    exact ⟨rfl, Below.refl _ _⟩

set_option maxHeartbeats 400000 in
theorem again_early2 (n : Nat) (sum run sq : Nat) (k : Int) (w : World) (hn : (n : Int) ≤ 1073741824) (h : k < 1 ∨ (1 ≤ k ∧ 65536 < k)) :
    Calls Try.prog 5 #[.int .i64 n, .float .f64 sum, .float .f64 run, .float .f64 sq, .int .i64 k] w fun e w' => e = .returned (.bool true) ∧ Below w.heap.size w w' := by
  have p1 : decide ((n : Int) < 0) = false := decide_eq_false (by omega)
  have p2 : decide ((1073741824 : Int) < n) = false := decide_eq_false (by omega)
  rcases h with h | ⟨h0, h⟩
  · have p3 : decide (k < 1) = true := decide_eq_true h
    go_enter Try.func5, Try.ntmps5
    go_wp2_with fail
    go_ret
    exact ⟨rfl, Below.refl _ _⟩
  · have p3 : decide (k < 1) = false := decide_eq_false (by omega)
    have p4 : decide ((65536 : Int) < k) = true := decide_eq_true h
    go_enter Try.func5, Try.ntmps5
    go_wp2_with fail
    go_ret
    exact ⟨rfl, Below.refl _ _⟩

set_option maxHeartbeats 400000 in
theorem again_nan (n : Nat) (sum run sq : Nat) (k : Nat) (w : World) (hn : (n : Int) ≤ 1073741824) (h0 : (1 : Int) ≤ k) (h1 : (k : Int) ≤ 65536) (hs : Ieee.double.sub run run = none) :
    Calls Try.prog 5 #[.int .i64 n, .float .f64 sum, .float .f64 run, .float .f64 sq, .int .i64 k] w fun e w' => e = .returned (.bool true) ∧ Below w.heap.size w w' := by
  have p1 : decide ((n : Int) < 0) = false := decide_eq_false (by omega)
  have p2 : decide ((1073741824 : Int) < n) = false := decide_eq_false (by omega)
  have p3 : decide ((k : Int) < 1) = false := decide_eq_false (by omega)
  have p4 : decide ((65536 : Int) < k) = false := decide_eq_false (by omega)
  have D := fun w => run_float_draws w .sub run run (.inr (.inl rfl)) hs
  have O : ∀ w, FloatKind.f64.format.order (nanAt run run w) 0 = none := fun w => nan_order (nanAt_nan run run w) 0
  clear hs
  go_enter Try.func5, Try.ntmps5
  go_wp2_with fail
  go_ret
  exact ⟨rfl, (Below.refl _ _).drew⟩

set_option maxHeartbeats 400000 in
theorem again_main (n : Nat) (sum run sq : Nat) (k : Nat) (w : World) (hn : (n : Int) ≤ 1073741824) (h0 : (1 : Int) ≤ k) (h1 : (k : Int) ≤ 65536) (hc : Fin run) (hS : Tot sum sum) (hQ : Kept sq sq) :
    Calls Try.prog 5 #[.int .i64 n, .float .f64 sum, .float .f64 run, .float .f64 sq, .int .i64 k] w fun e w' => e = .returned (.bool true) ∧ Below w.heap.size w w' := by
  have p1 : decide ((n : Int) < 0) = false := decide_eq_false (by omega)
  have p2 : decide ((1073741824 : Int) < n) = false := decide_eq_false (by omega)
  have p3 : decide ((k : Int) < 1) = false := decide_eq_false (by omega)
  have p4 : decide ((65536 : Int) < k) = false := decide_eq_false (by omega)
  have D := fun w => run_float_arith (P := Try.prog) w .sub 22 .f64 run run 0 (sub_self hc)
  have O := order_nought'
  have HC := hideN hc
  have HS := hideN hS
  have HQ := hideN hQ
  clear hc hS hQ
  go_enter Try.func5, Try.ntmps5
  go_wp2_with fail
  go_loopw [11, 12, 13, 14, 15, 16] (fun vn vs vr vq vw vi wr => ∃ (i s t r q : Nat), i ≤ k ∧ vn = .int .i64 ((n + i : Nat) : Int) ∧ vs = .float .f64 s ∧ vr = .float .f64 r ∧ vq = .float .f64 q ∧ vw = .float .f64 t ∧ vi = .int .i64 i ∧ Hid (AgainAt run sq w wr s t r q)) (fun _ _ _ _ _ v _ => k - (intOf v).toNat)
  case atStart => exact ⟨0, sum, sum, run, sq, by omega, rfl, rfl, rfl, rfl, rfl, rfl, hideN ⟨HS.out, .inl rfl, HQ.out, Below.refl _ _⟩⟩
  case round =>
    obtain ⟨i, s, t, r, q, hi, rfl, rfl, rfl, rfl, rfl, rfl, HI⟩ := hrel
    clear HS HQ
    by_cases hlt : i < k
    · have hik : (i : Int) < (k : Int) := by omega
      obtain ⟨m, hm⟩ : ∃ m, m = n + i := ⟨_, rfl⟩
      rw [← hm]
      have hmb : (m : Int) ≤ 1073807359 := by omega
      have HM := hideN hm
      clear hm
      rcases HI.out.sum with ⟨rfl, hs⟩ | ⟨hs, ht⟩
      · obtain ⟨z, hz, hn⟩ := add_notNaN hs HC.out
        have HZ := hideN hz
        have HN := hideN hn
        have A := fun w => run_float_arith (P := Try.prog) w .add 22 .f64 s run z hz
        clear hz hn hs
        go_wp2_with fail
        refine (door_mean m s r q run _ (by omega) HC.out (.inl HI.out.mean)).mono ?_
        rintro e w' ⟨⟨s1, r1, q1, rfl, e1, e2, pr, e3, e4⟩, hb⟩
        obtain rfl : s1 = z := by
          rcases e2 with e2 | ⟨e2, _⟩ <;> rw [HZ.out] at e2 <;> cases e2
          rfl
        have HE := hideN e1
        have HK := hideN (HI.out.squares.step e3 e4)
        have HB := hideN (HI.out.below.trans (hb.mono HI.out.below.size))
        clear e1 e2 e3 e4 hb HI HZ
        go_wp2_with fail
        go_roundw
        case rel => exact ⟨i + 1, s1, s1, r1, q1, by omega, by rw [HM.out]; go_num, rfl, rfl, rfl, rfl, by go_num, hideN ⟨.inl ⟨rfl, HN.out⟩, HE.out, HK.out, HB.out⟩⟩
        case measure => simp [intOf]; omega
      · have HT := hideN hs
        have A := fun w => run_float_draws w .add t run (.inl rfl) (nan_add ht)
        clear hs ht
        go_wp2_with fail
        refine (door_mean m s r q run _ (by omega) HC.out (.inl HI.out.mean)).mono ?_
        rintro e w' ⟨⟨s1, r1, q1, rfl, e1, e2, pr, e3, e4⟩, hb⟩
        have HN : Hid (IsNaN s1) := by
          rcases e2 with e2 | ⟨_, e2⟩
          · rw [nan_add HT.out] at e2; cases e2
          · exact hideN e2
        have HE := hideN e1
        have HK := hideN (HI.out.squares.step e3 e4)
        have HB := hideN (HI.out.below.trans (hb.mono HI.out.below.size))
        clear e1 e2 e3 e4 hb HI HT
        go_wp2_with fail
        go_roundw
        case rel => exact ⟨i + 1, s1, _, r1, q1, by omega, by rw [HM.out]; go_num, rfl, rfl, rfl, rfl, by go_num, hideN ⟨.inr ⟨HN.out, nanAt_nan _ _ _⟩, HE.out, HK.out, HB.out.drew⟩⟩
        case measure => simp [intOf]; omega
    · obtain rfl : i = k := by omega
      have O2 : FloatKind.f64.format.order r run = some .eq := order_eqv HI.out.mean (HI.out.mean.fin HC.out).notNaN
      have S1 := fun w => same_any q sq w HI.out.squares.same
      have S2 := fun w => same_any s t w HI.out.sum.same
      go_wp2_with fail
      refine (S1 _).mono ?_
      rintro e w' ⟨rfl, hw⟩
      rw [hw]
      go_wp2_with fail
      refine (S2 _).mono ?_
      rintro e w' ⟨rfl, hw⟩
      rw [hw]
      go_wp2_with fail
      go_ret
      exact ⟨rfl, HI.out.below⟩

theorem again_any (n : Int) (sum run sq : Nat) (k : Int) (w : World) (h1 : sum < 18446744073709551616) (h2 : run < 18446744073709551616) (h3 : sq < 18446744073709551616) :
    Calls Try.prog 5 #[.int .i64 n, .float .f64 sum, .float .f64 run, .float .f64 sq, .int .i64 k] w fun e w' => e = .returned (.bool true) ∧ Below w.heap.size w w' := by
  by_cases hn : 0 ≤ n ∧ n ≤ 1073741824
  · obtain ⟨m, rfl⟩ := Int.eq_ofNat_of_zero_le hn.1
    by_cases hk : 1 ≤ k ∧ k ≤ 65536
    · obtain ⟨j, rfl⟩ := Int.eq_ofNat_of_zero_le (show 0 ≤ k by omega)
      by_cases hf : Fin run
      · refine again_main m sum run sq j w hn.2 hk.1 hk.2 hf ?_ ?_
        · rcases nan_or h1 with h | h
          · exact .inr ⟨h, h⟩
          · exact .inl ⟨rfl, h⟩
        · rcases nan_or h3 with h | h
          · exact .inr ⟨h, h⟩
          · exact .inl ⟨.inl rfl, h⟩
      · exact again_nan m sum run sq j w hn.2 hk.1 hk.2 (sub_self_none h2 hf)
    · exact again_early2 m sum run sq k w hn.2 (by omega)
  · exact again_early n sum run sq k w (by omega)

end Go.Proofs.Qxb6617397a
