/-
  The walks of hexDigit, ZZHexDigit, isASCIILetter: each computes a plain function.
-/
import Derived.Test.Qxb6619614aRows
import Derived.WalkKit
import Derived.WalkSpells
import Derived.WalkLawsBesides
namespace Go.Proofs.Qxb6619614a
open Go.RowKit

/-- The digit that hexDigit gives. -/
def hxV (c : Int) : Int :=
  if 48 ≤ c ∧ c ≤ 57 then c - 48 else if 97 ≤ c ∧ c ≤ 102 then c - 87 else if 65 ≤ c ∧ c ≤ 70 then c - 55 else 0
/-- Does hexDigit accept? -/
def hxB (c : Int) : Bool := decide ((48 ≤ c ∧ c ≤ 57) ∨ (97 ≤ c ∧ c ≤ 102) ∨ (65 ≤ c ∧ c ≤ 70))
/-- Is it an ASCII letter? -/
def ltr (c : Int) : Bool := decide ((97 ≤ c ∧ c ≤ 122) ∨ (65 ≤ c ∧ c ≤ 90))

theorem ret2_eq {a b : Int} {x y : Bool} (h : a = b) (k : x = y) : Ending.returned (.tuple #[.int .i32 a, .bool x]) = .returned (.tuple #[.int .i32 b, .bool y]) := by rw [h, k]
theorem retb_eq {x y : Bool} (k : x = y) : Ending.returned (.bool x) = .returned (.bool y) := by rw [k]

set_option maxHeartbeats 400000 in
theorem hexDigit_any (c : Int) (w : World) (h1 : -2147483648 ≤ c) (h2 : c ≤ 2147483647) :
    Calls Try.prog 16 #[.int .i32 c] w fun e w' => e = .returned (.tuple #[.int .i32 (hxV c), .bool (hxB c)]) ∧ w = w' := by
  by_cases a : 48 ≤ c
  · by_cases b : c ≤ 57
    · go_enter Try.func16, Try.ntmps16
      go_wp2
      go_ret2
      exact ⟨ret2_eq (by unfold hxV; rw [if_pos ⟨a, b⟩]) (by unfold hxB; simp; omega), rfl⟩
    · by_cases d : 97 ≤ c
      · by_cases f : c ≤ 102
        · go_enter Try.func16, Try.ntmps16
          go_wp2
          go_ret2
          exact ⟨ret2_eq (by unfold hxV; rw [if_neg (by omega), if_pos ⟨d, f⟩]; omega) (by unfold hxB; simp; omega), rfl⟩
        · go_enter Try.func16, Try.ntmps16
          go_wp2
          go_ret2
          exact ⟨ret2_eq (by unfold hxV; rw [if_neg (by omega), if_neg (by omega), if_neg (by omega)]) (by unfold hxB; simp; omega), rfl⟩
      · by_cases g : 65 ≤ c
        · by_cases f : c ≤ 70
          · go_enter Try.func16, Try.ntmps16
            go_wp2
            go_ret2
            exact ⟨ret2_eq (by unfold hxV; rw [if_neg (by omega), if_neg (by omega), if_pos ⟨g, f⟩]; omega) (by unfold hxB; simp; omega), rfl⟩
          · go_enter Try.func16, Try.ntmps16
            go_wp2
            go_ret2
            exact ⟨ret2_eq (by unfold hxV; rw [if_neg (by omega), if_neg (by omega), if_neg (by omega)]) (by unfold hxB; simp; omega), rfl⟩
        · go_enter Try.func16, Try.ntmps16
          go_wp2
          go_ret2
          exact ⟨ret2_eq (by unfold hxV; rw [if_neg (by omega), if_neg (by omega), if_neg (by omega)]) (by unfold hxB; simp; omega), rfl⟩
  · have d : ¬ 97 ≤ c := by omega
    have g : ¬ 65 ≤ c := by omega
    go_enter Try.func16, Try.ntmps16
    go_wp2
    go_ret2
    exact ⟨ret2_eq (by unfold hxV; rw [if_neg (by omega), if_neg (by omega), if_neg (by omega)]) (by unfold hxB; simp; omega), rfl⟩

set_option maxHeartbeats 400000 in
theorem zzHexDigit_any (c : Int) (w : World) (h1 : -2147483648 ≤ c) (h2 : c ≤ 2147483647) :
    Calls Try.prog 6 #[.int .i32 c] w fun e w' => e = .returned (.tuple #[.int .i32 (hxV c), .bool (hxB c)]) ∧ w = w' := by
  go_enter Try.func6, Try.ntmps6
  go_wp2_with (go_at_call 16; refine (hexDigit_any _ _ h1 h2).mono ?_; rintro e w' ⟨rfl, rfl⟩)
  go_ret2
  exact ⟨rfl, rfl⟩

set_option maxHeartbeats 400000 in
theorem isLetter_any (c : Int) (w : World) :
    Calls Try.prog 7 #[.int .i32 c] w fun e w' => e = .returned (.bool (ltr c)) ∧ w = w' := by
  by_cases a : 97 ≤ c
  · have g : 65 ≤ c := by omega
    by_cases b : c ≤ 122
    · go_enter Try.func7, Try.ntmps7
      go_wp2
      go_ret
      exact ⟨retb_eq (by unfold ltr; simp; omega), rfl⟩
    · have b' : ¬ c ≤ 90 := by omega
      go_enter Try.func7, Try.ntmps7
      go_wp2
      go_ret
      exact ⟨retb_eq (by unfold ltr; simp; omega), rfl⟩
  · by_cases g : 65 ≤ c
    · by_cases b : c ≤ 90
      · go_enter Try.func7, Try.ntmps7
        go_wp2
        go_ret
        exact ⟨retb_eq (by unfold ltr; simp; omega), rfl⟩
      · go_enter Try.func7, Try.ntmps7
        go_wp2
        go_ret
        exact ⟨retb_eq (by unfold ltr; simp; omega), rfl⟩
    · go_enter Try.func7, Try.ntmps7
      go_wp2
      go_ret
      exact ⟨retb_eq (by unfold ltr; simp; omega), rfl⟩

end Go.Proofs.Qxb6619614a
