/-
  DERIVED. THE WALKS of the summary: the range test, one observation, the door to it, the sameness of two floats.
-/
import Derived.Test.Qxb6617397aRows
import Derived.Test.Qxb6617397aKeep
import Derived.WalkKit
import Derived.WalkSpells
import Derived.WalkLawsBesides
import Derived.Deep.QuietTactic
import Derived.BigQuiet
import Derived.BigRegion
namespace Go.Proofs.Qxb6617397a
open Go.RowKit

theorem run_store_float {P : Program} {w : World} {a : Addr} {m : Mode} (k : FloatKind) (b : Nat) : (store a (.float k b) m).run P w = stored P w a (.float k b) m := run_store P w a _ m rfl
attribute [local go_sem] run_store_float

theorem ret_b {x y : Bool} (k : x = y) : Ending.returned (.bool x) = .returned (.bool y) := by rw [k]

set_option maxHeartbeats 400000 in
theorem range_any (v : Nat) (w : World) :
    Calls Try.prog 8 #[.float .f64 v] w fun e w' => e = .returned (.bool (inR v)) ∧ w' = w := by
  have hneg : ∀ w, (Op.unary .neg (.float .f64 v)).run Try.prog w = .ok (.float .f64 (v ^^^ 9223372036854775808)) w := fun _ => rfl
  by_cases h1 : (FloatKind.f64.format.order v 0 == some Ordering.eq) = true
  · have HE : Hid (inR v = true) := if_pos h1
    go_enter Try.func8, Try.ntmps8
    go_wp2
    go_ret
    exact ⟨ret_b HE.out.symm, rfl⟩
  · have h1' : (FloatKind.f64.format.order v 0 == some Ordering.eq) = false := by simpa using h1
    by_cases h2 : (FloatKind.f64.format.order v 0 == some Ordering.lt) = true
    · obtain ⟨q, hq⟩ : ∃ q, q = v ^^^ 9223372036854775808 := ⟨_, rfl⟩
      rw [← hq] at hneg
      have HE : Hid (inR v = ((FloatKind.f64.format.order q 3256102530588868608 == some .gt || FloatKind.f64.format.order q 3256102530588868608 == some .eq) && (FloatKind.f64.format.order q 5958262307011166208 == some .lt || FloatKind.f64.format.order q 5958262307011166208 == some .eq))) := by
        rw [hq]
        exact (if_neg h1).trans (if_pos h2)
      clear h1 hq
      by_cases h3 : (FloatKind.f64.format.order q 3256102530588868608 == some .gt || FloatKind.f64.format.order q 3256102530588868608 == some .eq) = true
      · go_enter Try.func8, Try.ntmps8
        go_wp2
        go_ret
        exact ⟨ret_b (by rw [HE.out, h3, Bool.true_and]), rfl⟩
      · have h3' : (FloatKind.f64.format.order q 3256102530588868608 == some .gt || FloatKind.f64.format.order q 3256102530588868608 == some .eq) = false := by simpa using h3
        have HE' : Hid (inR v = false) := by rw [HE.out, h3']; rfl
        clear h3 HE
        go_enter Try.func8, Try.ntmps8
        go_wp2
        go_ret
        exact ⟨ret_b (by rw [HE'.out]), rfl⟩
    · have h2' : (FloatKind.f64.format.order v 0 == some Ordering.lt) = false := by simpa using h2
      have HE : Hid (inR v = ((FloatKind.f64.format.order v 3256102530588868608 == some .gt || FloatKind.f64.format.order v 3256102530588868608 == some .eq) && (FloatKind.f64.format.order v 5958262307011166208 == some .lt || FloatKind.f64.format.order v 5958262307011166208 == some .eq))) := (if_neg h1).trans (if_neg h2)
      clear h1 h2
      by_cases h3 : (FloatKind.f64.format.order v 3256102530588868608 == some .gt || FloatKind.f64.format.order v 3256102530588868608 == some .eq) = true
      · go_enter Try.func8, Try.ntmps8
        go_wp2
        go_ret
        exact ⟨ret_b (by rw [HE.out, h3, Bool.true_and]), rfl⟩
      · have h3' : (FloatKind.f64.format.order v 3256102530588868608 == some .gt || FloatKind.f64.format.order v 3256102530588868608 == some .eq) = false := by simpa using h3
        have HE' : Hid (inR v = false) := by rw [HE.out, h3']; rfl
        clear h3 HE
        go_enter Try.func8, Try.ntmps8
        go_wp2
        go_ret
        exact ⟨ret_b (by rw [HE'.out]), rfl⟩


/-- The NaN that an invalid operation draws. -/
def nanAt (x y : Nat) (w : World) : Nat := (Question.nanBits .f64 x y).cut (w.tape w.drawn (.nanBits .f64 x y))
theorem nanAt_nan (x y : Nat) (w : World) : IsNaN (nanAt x y w) := by
  have h : nanAt x y w = (w.tape w.drawn (.nanBits .f64 x y) % 2) * 2 ^ 63 + 0x7ff0000000000000 + 1 + (w.tape w.drawn (.nanBits .f64 x y) / 2) % (2 ^ 52 - 1) := rfl
  generalize w.tape w.drawn (.nanBits .f64 x y) = t at h
  rw [h]
  rcases Nat.mod_two_eq_zero_or_one t with e | e
  · refine ⟨false, 9218868437227405313 + (t / 2) % (2 ^ 52 - 1), ?_, by omega, by omega⟩
    rw [e, word_eq, if_neg Bool.false_ne_true, Nat.zero_mul, Nat.zero_add]
  · refine ⟨true, 9218868437227405313 + (t / 2) % (2 ^ 52 - 1), ?_, by omega, by omega⟩
    rw [e, word_eq, if_pos rfl]; omega
theorem run_float_draws (w : World) (op : BinOp) (x y : Nat) (ho : op = .add ∨ op = .sub ∨ op = .mul ∨ op = .quo) (h : floatBits op .f64 x y = none) : (binOp op 22 (.float .f64 x) (.float .f64 y)).run Try.prog w = .ok (.float .f64 (nanAt x y w)) w.drew := by
  unfold floatBits at h
  rcases ho with rfl | rfl | rfl | rfl <;> simp only at h <;> simp [binOp, Op.floatArith, h, Question.forced] <;> rfl

theorem drew2 (w : World) : w.drew.drew = w.drewN 2 := rfl
theorem drew3 (w : World) : w.drew.drew.drew = w.drewN 3 := rfl
theorem drew4 (w : World) : w.drew.drew.drew.drew = w.drewN 4 := rfl

set_option maxHeartbeats 400000 in
theorem add_vv (B n : Nat) (sum run sq x : Nat) (w : World) (hn : (n : Int) ≤ 2147483648)
    (c0 : w.cell? ⟨B, 0, none⟩ = some (.int .i64 n)) (c1 : w.cell? ⟨B, 1, none⟩ = some (.float .f64 sum)) (c2 : w.cell? ⟨B, 2, none⟩ = some (.float .f64 run)) (c3 : w.cell? ⟨B, 3, none⟩ = some (.float .f64 sq))
    (f0 : ∀ o, w.frozen? ⟨B, o, none⟩ = false) (s1 : Nat) (dl fc qd r1 e pr : Nat) (q1 : Nat)
    (a1 : ∀ w, (binOp .add 22 (.float .f64 sum) (.float .f64 x)).run Try.prog w = .ok (.float .f64 s1) w)
    (a2 : ∀ w, (binOp .sub 22 (.float .f64 x) (.float .f64 run)).run Try.prog w = .ok (.float .f64 dl) w)
    (a3 : floatOfInt .f64 ((n : Int) + 1) = fc)
    (a4 : ∀ w, (binOp .quo 22 (.float .f64 dl) (.float .f64 fc)).run Try.prog w = .ok (.float .f64 qd) w)
    (a5 : ∀ w, (binOp .add 22 (.float .f64 run) (.float .f64 qd)).run Try.prog w = .ok (.float .f64 r1) w)
    (a6 : ∀ w, (binOp .sub 22 (.float .f64 x) (.float .f64 r1)).run Try.prog w = .ok (.float .f64 e) w)
    (a7 : ∀ w, (binOp .mul 22 (.float .f64 dl) (.float .f64 e)).run Try.prog w = .ok (.float .f64 pr) w)
    (a8 : ∀ w, (binOp .add 22 (.float .f64 sq) (.float .f64 pr)).run Try.prog w = .ok (.float .f64 q1) w) :
    Calls Try.prog 9 #[.pointer (some ⟨B, 0, none⟩), .float .f64 x] w fun e w' => e = .returned (.tuple #[]) ∧ ∃ k, w' = (((((w.setCell ⟨B, 0, none⟩ (.int .i64 ((n : Int) + 1))).setCell ⟨B, 1, none⟩ (.float .f64 s1))).setCell ⟨B, 2, none⟩ (.float .f64 r1)).setCell ⟨B, 3, none⟩ (.float .f64 q1)).drewN k := by
  go_enter Try.func9, Try.ntmps9
  go_wp2_with fail
  go_region
  go_wp2_with fail
  go_region
  go_wp2_with fail
  all_goals go_end0
  all_goals exact ⟨rfl, _, drew2 _⟩

set_option maxHeartbeats 400000 in
theorem add_vn (B n : Nat) (sum run sq x : Nat) (w : World) (hn : (n : Int) ≤ 2147483648)
    (c0 : w.cell? ⟨B, 0, none⟩ = some (.int .i64 n)) (c1 : w.cell? ⟨B, 1, none⟩ = some (.float .f64 sum)) (c2 : w.cell? ⟨B, 2, none⟩ = some (.float .f64 run)) (c3 : w.cell? ⟨B, 3, none⟩ = some (.float .f64 sq))
    (f0 : ∀ o, w.frozen? ⟨B, o, none⟩ = false) (s1 : Nat) (dl fc qd r1 e pr : Nat) (q1 : World → Nat)
    (a1 : ∀ w, (binOp .add 22 (.float .f64 sum) (.float .f64 x)).run Try.prog w = .ok (.float .f64 s1) w)
    (a2 : ∀ w, (binOp .sub 22 (.float .f64 x) (.float .f64 run)).run Try.prog w = .ok (.float .f64 dl) w)
    (a3 : floatOfInt .f64 ((n : Int) + 1) = fc)
    (a4 : ∀ w, (binOp .quo 22 (.float .f64 dl) (.float .f64 fc)).run Try.prog w = .ok (.float .f64 qd) w)
    (a5 : ∀ w, (binOp .add 22 (.float .f64 run) (.float .f64 qd)).run Try.prog w = .ok (.float .f64 r1) w)
    (a6 : ∀ w, (binOp .sub 22 (.float .f64 x) (.float .f64 r1)).run Try.prog w = .ok (.float .f64 e) w)
    (a7 : ∀ w, (binOp .mul 22 (.float .f64 dl) (.float .f64 e)).run Try.prog w = .ok (.float .f64 pr) w)
    (a8 : ∀ w, (binOp .add 22 (.float .f64 sq) (.float .f64 pr)).run Try.prog w = .ok (.float .f64 (q1 w)) w.drew) :
    Calls Try.prog 9 #[.pointer (some ⟨B, 0, none⟩), .float .f64 x] w fun e w' => e = .returned (.tuple #[]) ∧ ∃ v : World, ∃ k, w' = (((((w.setCell ⟨B, 0, none⟩ (.int .i64 ((n : Int) + 1))).setCell ⟨B, 1, none⟩ (.float .f64 s1))).setCell ⟨B, 2, none⟩ (.float .f64 r1)).setCell ⟨B, 3, none⟩ (.float .f64 (q1 v))).drewN k := by
  go_enter Try.func9, Try.ntmps9
  go_wp2_with fail
  go_region
  go_wp2_with fail
  go_region
  go_wp2_with fail
  all_goals go_end0
  all_goals exact ⟨rfl, _, _, drew3 _⟩

set_option maxHeartbeats 400000 in
theorem add_nv (B n : Nat) (sum run sq x : Nat) (w : World) (hn : (n : Int) ≤ 2147483648)
    (c0 : w.cell? ⟨B, 0, none⟩ = some (.int .i64 n)) (c1 : w.cell? ⟨B, 1, none⟩ = some (.float .f64 sum)) (c2 : w.cell? ⟨B, 2, none⟩ = some (.float .f64 run)) (c3 : w.cell? ⟨B, 3, none⟩ = some (.float .f64 sq))
    (f0 : ∀ o, w.frozen? ⟨B, o, none⟩ = false) (s1 : World → Nat) (dl fc qd r1 e pr : Nat) (q1 : Nat)
    (a1 : ∀ w, (binOp .add 22 (.float .f64 sum) (.float .f64 x)).run Try.prog w = .ok (.float .f64 (s1 w)) w.drew)
    (a2 : ∀ w, (binOp .sub 22 (.float .f64 x) (.float .f64 run)).run Try.prog w = .ok (.float .f64 dl) w)
    (a3 : floatOfInt .f64 ((n : Int) + 1) = fc)
    (a4 : ∀ w, (binOp .quo 22 (.float .f64 dl) (.float .f64 fc)).run Try.prog w = .ok (.float .f64 qd) w)
    (a5 : ∀ w, (binOp .add 22 (.float .f64 run) (.float .f64 qd)).run Try.prog w = .ok (.float .f64 r1) w)
    (a6 : ∀ w, (binOp .sub 22 (.float .f64 x) (.float .f64 r1)).run Try.prog w = .ok (.float .f64 e) w)
    (a7 : ∀ w, (binOp .mul 22 (.float .f64 dl) (.float .f64 e)).run Try.prog w = .ok (.float .f64 pr) w)
    (a8 : ∀ w, (binOp .add 22 (.float .f64 sq) (.float .f64 pr)).run Try.prog w = .ok (.float .f64 q1) w) :
    Calls Try.prog 9 #[.pointer (some ⟨B, 0, none⟩), .float .f64 x] w fun e w' => e = .returned (.tuple #[]) ∧ ∃ u : World, ∃ k, w' = (((((w.setCell ⟨B, 0, none⟩ (.int .i64 ((n : Int) + 1))).setCell ⟨B, 1, none⟩ (.float .f64 (s1 u)))).setCell ⟨B, 2, none⟩ (.float .f64 r1)).setCell ⟨B, 3, none⟩ (.float .f64 q1)).drewN k := by
  go_enter Try.func9, Try.ntmps9
  go_wp2_with fail
  go_region
  go_wp2_with fail
  go_region
  go_wp2_with fail
  all_goals go_end0
  all_goals exact ⟨rfl, _, _, drew3 _⟩

set_option maxHeartbeats 400000 in
theorem add_nn (B n : Nat) (sum run sq x : Nat) (w : World) (hn : (n : Int) ≤ 2147483648)
    (c0 : w.cell? ⟨B, 0, none⟩ = some (.int .i64 n)) (c1 : w.cell? ⟨B, 1, none⟩ = some (.float .f64 sum)) (c2 : w.cell? ⟨B, 2, none⟩ = some (.float .f64 run)) (c3 : w.cell? ⟨B, 3, none⟩ = some (.float .f64 sq))
    (f0 : ∀ o, w.frozen? ⟨B, o, none⟩ = false) (s1 : World → Nat) (dl fc qd r1 e pr : Nat) (q1 : World → Nat)
    (a1 : ∀ w, (binOp .add 22 (.float .f64 sum) (.float .f64 x)).run Try.prog w = .ok (.float .f64 (s1 w)) w.drew)
    (a2 : ∀ w, (binOp .sub 22 (.float .f64 x) (.float .f64 run)).run Try.prog w = .ok (.float .f64 dl) w)
    (a3 : floatOfInt .f64 ((n : Int) + 1) = fc)
    (a4 : ∀ w, (binOp .quo 22 (.float .f64 dl) (.float .f64 fc)).run Try.prog w = .ok (.float .f64 qd) w)
    (a5 : ∀ w, (binOp .add 22 (.float .f64 run) (.float .f64 qd)).run Try.prog w = .ok (.float .f64 r1) w)
    (a6 : ∀ w, (binOp .sub 22 (.float .f64 x) (.float .f64 r1)).run Try.prog w = .ok (.float .f64 e) w)
    (a7 : ∀ w, (binOp .mul 22 (.float .f64 dl) (.float .f64 e)).run Try.prog w = .ok (.float .f64 pr) w)
    (a8 : ∀ w, (binOp .add 22 (.float .f64 sq) (.float .f64 pr)).run Try.prog w = .ok (.float .f64 (q1 w)) w.drew) :
    Calls Try.prog 9 #[.pointer (some ⟨B, 0, none⟩), .float .f64 x] w fun e w' => e = .returned (.tuple #[]) ∧ ∃ u : World, ∃ v : World, ∃ k, w' = (((((w.setCell ⟨B, 0, none⟩ (.int .i64 ((n : Int) + 1))).setCell ⟨B, 1, none⟩ (.float .f64 (s1 u)))).setCell ⟨B, 2, none⟩ (.float .f64 r1)).setCell ⟨B, 3, none⟩ (.float .f64 (q1 v))).drewN k := by
  go_enter Try.func9, Try.ntmps9
  go_wp2_with fail
  go_region
  go_wp2_with fail
  go_region
  go_wp2_with fail
  all_goals go_end0
  all_goals exact ⟨rfl, _, _, _, drew4 _⟩

/-- A float's sum, as the walk gives it: the number; where there is none, some NaN. -/
def Plus (x y z : Nat) : Prop := Ieee.double.add x y = some z ∨ (Ieee.double.add x y = none ∧ IsNaN z)

theorem count_float (n : Nat) : floatOfInt .f64 ((n : Int) + 1) = ofCount (n + 1) := by
  have h : ¬ ((n : Int) + 1 < 0) := by omega
  have h2 : ((n : Int) + 1).natAbs = n + 1 := by omega
  show Ieee.double.nearest (decide ((n : Int) + 1 < 0)) ((n : Int) + 1).natAbs 0 = Ieee.double.nearest false (n + 1) 0
  rw [h2, decide_eq_false h]

/-- One observation, in place. -/
theorem add_any (B n : Nat) (sum run sq x : Nat) (w : World) (hn : (n : Int) ≤ 2147483648)
    (c0 : w.cell? ⟨B, 0, none⟩ = some (.int .i64 n)) (c1 : w.cell? ⟨B, 1, none⟩ = some (.float .f64 sum)) (c2 : w.cell? ⟨B, 2, none⟩ = some (.float .f64 run)) (c3 : w.cell? ⟨B, 3, none⟩ = some (.float .f64 sq))
    (f0 : ∀ o, w.frozen? ⟨B, o, none⟩ = false) (dl qd r1 e pr : Nat)
    (a2 : Ieee.double.sub x run = some dl) (a4 : Ieee.double.div dl (ofCount (n + 1)) = some qd) (a5 : Ieee.double.add run qd = some r1)
    (a6 : Ieee.double.sub x r1 = some e) (a7 : Ieee.double.mul dl e = some pr) :
    Calls Try.prog 9 #[.pointer (some ⟨B, 0, none⟩), .float .f64 x] w fun e w' => e = .returned (.tuple #[]) ∧
      ∃ s1 q1 k, Plus sum x s1 ∧ Plus sq pr q1 ∧ w' = ((((w.setCell ⟨B, 0, none⟩ (.int .i64 ((n : Int) + 1))).setCell ⟨B, 1, none⟩ (.float .f64 s1)).setCell ⟨B, 2, none⟩ (.float .f64 r1)).setCell ⟨B, 3, none⟩ (.float .f64 q1)).drewN k := by
  have b2 := fun w => run_float_arith (P := Try.prog) w .sub 22 .f64 x run dl a2
  have b4 := fun w => run_float_arith (P := Try.prog) w .quo 22 .f64 dl (ofCount (n + 1)) qd a4
  have b5 := fun w => run_float_arith (P := Try.prog) w .add 22 .f64 run qd r1 a5
  have b6 := fun w => run_float_arith (P := Try.prog) w .sub 22 .f64 x r1 e a6
  have b7 := fun w => run_float_arith (P := Try.prog) w .mul 22 .f64 dl e pr a7
  have d1 := fun h w => run_float_draws w .add sum x (.inl rfl) h
  have d8 := fun h w => run_float_draws w .add sq pr (.inl rfl) h
  rcases h1 : Ieee.double.add sum x with _ | s1 <;> rcases h8 : Ieee.double.add sq pr with _ | q1
  · refine (add_nn B n sum run sq x w hn c0 c1 c2 c3 f0 (nanAt sum x) dl _ qd r1 e pr (nanAt sq pr) (d1 h1) b2 (count_float n) b4 b5 b6 b7 (d8 h8)).mono ?_
    rintro e w' ⟨he, u, v, k, hw⟩
    exact ⟨he, _, _, k, .inr ⟨h1, nanAt_nan _ _ _⟩, .inr ⟨h8, nanAt_nan _ _ _⟩, hw⟩
  · refine (add_nv B n sum run sq x w hn c0 c1 c2 c3 f0 (nanAt sum x) dl _ qd r1 e pr q1 (d1 h1) b2 (count_float n) b4 b5 b6 b7 (fun w => run_float_arith w .add 22 .f64 sq pr q1 h8)).mono ?_
    rintro e w' ⟨he, u, k, hw⟩
    exact ⟨he, _, _, k, .inr ⟨h1, nanAt_nan _ _ _⟩, .inl h8, hw⟩
  · refine (add_vn B n sum run sq x w hn c0 c1 c2 c3 f0 s1 dl _ qd r1 e pr (nanAt sq pr) (fun w => run_float_arith w .add 22 .f64 sum x s1 h1) b2 (count_float n) b4 b5 b6 b7 (d8 h8)).mono ?_
    rintro e w' ⟨he, v, k, hw⟩
    exact ⟨he, _, _, k, .inl h1, .inr ⟨h8, nanAt_nan _ _ _⟩, hw⟩
  · refine (add_vv B n sum run sq x w hn c0 c1 c2 c3 f0 s1 dl _ qd r1 e pr q1 (fun w => run_float_arith w .add 22 .f64 sum x s1 h1) b2 (count_float n) b4 b5 b6 b7 (fun w => run_float_arith w .add 22 .f64 sq pr q1 h8)).mono ?_
    rintro e w' ⟨he, k, hw⟩
    exact ⟨he, _, _, k, .inl h1, .inl h8, hw⟩

theorem results_tmp4 {fn : Func} {t u v x : Tmp} (h : fn.results = #[.tmp t, .tmp u, .tmp v, .tmp x]) (tmps : Array Value) (P : Program) (w : World) :
    (results fn tmps).run P w = .ok (.tuple #[tmps.getD t undef, tmps.getD u undef, tmps.getD v undef, tmps.getD x undef]) w := by
  simp [results, h]

set_option maxHeartbeats 400000 in
theorem door_any (n : Nat) (sum run sq x : Nat) (w : World) (hn : (n : Int) ≤ 2147483648) (dl qd r1 e pr : Nat)
    (a2 : Ieee.double.sub x run = some dl) (a4 : Ieee.double.div dl (ofCount (n + 1)) = some qd) (a5 : Ieee.double.add run qd = some r1)
    (a6 : Ieee.double.sub x r1 = some e) (a7 : Ieee.double.mul dl e = some pr) :
    Calls Try.prog 6 #[.int .i64 n, .float .f64 sum, .float .f64 run, .float .f64 sq, .float .f64 x] w fun e w' =>
      (∃ s1 q1, e = .returned (.tuple #[.int .i64 ((n : Int) + 1), .float .f64 s1, .float .f64 r1, .float .f64 q1]) ∧ Plus sum x s1 ∧ Plus sq pr q1) ∧ Below w.heap.size w w' := by
  have A := fun B w c0 c1 c2 c3 f0 => add_any B n sum run sq x w hn c0 c1 c2 c3 f0 dl qd r1 e pr a2 a4 a5 a6 a7
  clear a2 a4 a5 a6 a7
  go_enter Try.func6, Try.ntmps6
  go_wp2_with fail
  refine (A _ _ (by simp [go_sem]) (by simp [go_sem]) (by simp [go_sem]) (by simp [go_sem]) (fun o => by simp [go_sem])).mono ?_
  rintro e w' ⟨rfl, s1, q1, k, p1, p2, hw⟩
  have d0 : w'.cell? ⟨w.heap.size, 0, none⟩ = some (.int .i64 ((n : Int) + 1)) := by rw [hw]; simp [go_sem]
  have d1 : w'.cell? ⟨w.heap.size, 1, none⟩ = some (.float .f64 s1) := by rw [hw]; simp [go_sem]
  have d2 : w'.cell? ⟨w.heap.size, 2, none⟩ = some (.float .f64 r1) := by rw [hw]; simp [go_sem]
  have d3 : w'.cell? ⟨w.heap.size, 3, none⟩ = some (.float .f64 q1) := by rw [hw]; simp [go_sem]
  have hb : Below w.heap.size w w' := by
    rw [hw]
    exact below_drewN ((((((Below.refl _ w).alloc (Nat.le_refl _) _).setCell (Nat.le_refl _) _).setCell (Nat.le_refl _) _).setCell (Nat.le_refl _) _).setCell (Nat.le_refl _) _) k
  clear hw A
  go_wp2_with fail
  go_quiet (fail)
  go_wp2_with fail
  (try simp only [Exit.inBlock, Exit.then])
  refine bodyPost_ret (results_tmp4 rfl _ _ _) rfl ?_
  exact ⟨⟨_, _, rfl, p1, p2⟩, below_drewN hb _⟩

end Go.Proofs.Qxb6617397a
