/-
  The law on the name table: its bound, and its walk at an empty list.
-/
import Derived.Test.Qxb6619614aNameAdd
import Derived.Deep.QuietTactic
import Derived.BigQuiet
namespace Go.Proofs.Qxb6619614a
open Go.RowKit Go.Maps

/-- It returns one of the two truth values, and where it says yes no name is long; nothing turns. -/
def AnyB (len : Nat) (f : Nat → ByteArray) (e : Ending) (w w' : World) : Prop := ∃ r, e = .returned (.bool r) ∧ w' = w ∧ (r = true → ∀ k, k < len → ((f k).size : Int) ≤ 1048576)

set_option maxHeartbeats 400000 in
theorem zzBytesN_row (b off len cap : Nat) (f : Nat → ByteArray) (w : World) (hcell : ∀ k, k < len → w.cell? ⟨b, off + k, none⟩ = some (.string (f k))) :
    Calls Try.prog 11 #[.slice (some ⟨b, off, none⟩) len cap] w fun e w' => AnyB len f e w w' := by
  have HC : Hid (∀ k, k < len → w.cell? ⟨b, off + k, none⟩ = some (.string (f k))) := hcell
  clear hcell
  by_cases hl : (1048576 : Int) < (len : Int)
  · go_enter Try.func11, Try.ntmps11
    go_wp2
    go_ret
    exact ⟨_, rfl, rfl, fun h => by cases h⟩
  · have hl' : (len : Int) ≤ 1048576 := by omega
    have d1 : decide ((1048576 : Int) < (len : Int)) = false := by simp; omega
    clear hl
    go_enter Try.func11, Try.ntmps11
    go_wp2
    go_loop [3, 4] (fun z v => ∃ (k : Nat) (n : Int), k ≤ len ∧ Hid (∀ j, j < k → ((f j).size : Int) ≤ 1048576) ∧ 0 ≤ n ∧ n ≤ 1048576 ∧ z = .int .i64 n ∧ v = .int .i64 k) (fun _ v => len - (intOf v).toNat)
    case atStart => exact ⟨0, len, by omega, fun j hj => by omega, by omega, by omega, rfl, rfl⟩
    case round =>
      obtain ⟨k, n, hk, HJ, hn0, hn1, rfl, rfl⟩ := hrel
      by_cases hlt : k < len
      · have hc := HC.out k hlt
        by_cases h1 : (1048576 : Int) < ((f k).size : Int)
        · go_wp2
          go_ret
          exact ⟨_, rfl, rfl, fun h => by cases h⟩
        · by_cases h2 : (1048576 : Int) < n + ((f k).size : Int)
          · go_wp2
            go_ret
            exact ⟨_, rfl, rfl, fun h => by cases h⟩
          · have HJ1 : Hid (∀ j, j < k + 1 → ((f j).size : Int) ≤ 1048576) := fun j hj => by
              by_cases e : j = k
              · rw [e]; omega
              · exact HJ.out j (by omega)
            go_wp2
            go_round
            case rel => exact ⟨k + 1, n + ((f k).size : Int), by omega, HJ1, by omega, by omega, by go_num, by go_num⟩
            case measure => simp [intOf]; omega
      · go_wp2
        go_ret
        exact ⟨_, rfl, rfl, fun _ j hj => HJ.out j (by omega)⟩

set_option maxHeartbeats 400000 in
theorem zzBytesN_empty (a : Option Addr) (cap : Nat) (w : World) :
    Calls Try.prog 11 #[.slice a 0 cap] w fun e w' => e = .returned (.bool true) ∧ w' = w := by
  go_enter Try.func11, Try.ntmps11
  go_wp2
  go_loop [4] (fun v => v = .int .i64 0) (fun _ => 0)
  case atStart => rfl
  case round =>
    subst hrel
    go_wp2
    go_ret
    exact ⟨rfl, rfl⟩

set_option maxRecDepth 100000 in
set_option maxHeartbeats 1000000 in
theorem name_empty (a : Option Addr) (cap : Nat) (w : World) :
    Calls Try.prog 5 #[.slice a 0 cap] w fun e w' => e = .returned (.bool true) ∧ Below w.heap.size w w' := by
  have HT : Hid (Tab (w.alloc (.cells #[.slice none 0 0, .map none] 39)) w.heap.size (.slice none 0 0) (.map none) []) := Tab.made w
  go_enter Try.func5, Try.ntmps5
  go_wp2_with fail
  refine (zzBytesN_empty _ _ _).mono ?_
  rintro e w' ⟨rfl, hw⟩
  rw [hw]
  clear hw w'
  go_wp2_with fail
  go_loop [4] (fun v => v = .int .i64 0) (fun _ => 0)
  case atStart => rfl
  case round =>
    subst hrel
    go_wp2_with fail
    refine (newTable _).mono ?_
    rintro e w' ⟨rfl, hw⟩
    rw [hw]
    clear hw w'
    go_wp2_with fail
    go_loop [6, 7] (fun d v => d = .slice none 0 0 ∧ v = .int .i64 0) (fun _ _ => 0)
    case atStart => exact ⟨rfl, rfl⟩
    case round =>
      obtain ⟨rfl, rfl⟩ := hrel
      go_wp2_with fail
      refine (tableNames HT.out).mono ?_
      rintro e w' ⟨rfl, hw⟩
      rw [hw]
      clear hw w'
      go_wp2_with fail
      go_loop [10] (fun v => v = .int .i64 0) (fun _ => 0)
      case atStart => rfl
      case round =>
        subst hrel
        go_wp2_with fail
        go_loop [11] (fun v => v = .int .i64 0) (fun _ => 0)
        case atStart => rfl
        case round =>
          subst hrel
          go_wp2_with fail
          refine (tableNames HT.out).mono ?_
          rintro e w' ⟨rfl, hw⟩
          rw [hw]
          clear hw w'
          go_wp2_with fail
          go_ret
          exact ⟨rfl, (Below.refl _ _).alloc (Nat.le_refl _) _⟩
end Go.Proofs.Qxb6619614a
