/-
  The walks of skipSpace, ZZSkipSpace, isJSONSpace, zzBytes: each computes a plain function.
-/
import Derived.Test.Qxb6619614aRows
import Derived.Test.Qxb6619614aSkipPlain
import Derived.WalkKit
import Derived.WalkSpells
import Derived.WalkLawsBesides
namespace Go.Proofs.Qxb6619614a
open Go.RowKit

theorem ret_boolS {x y : Bool} (k : x = y) : Ending.returned (.bool x) = .returned (.bool y) := by rw [k]
theorem ret_intS {x y : Int} (k : x = y) : Ending.returned (.int .i64 x) = .returned (.int .i64 y) := by rw [k]

theorem spB_cases (x : Int) : (spB x = true ∧ ((x == 32) = true ∨ (x == 32) = false ∧ (x == 9) = true ∨ (x == 32) = false ∧ (x == 9) = false ∧ (x == 10) = true ∨ (x == 32) = false ∧ (x == 9) = false ∧ (x == 10) = false ∧ (x == 13) = true)) ∨
    (spB x = false ∧ (x == 32) = false ∧ (x == 9) = false ∧ (x == 10) = false ∧ (x == 13) = false) := by
  unfold spB; simp; omega

set_option maxHeartbeats 400000 in
theorem isSpace_any (x : Int) (w : World) :
    Calls Try.prog 10 #[.int .u8 x] w fun e w' => e = .returned (.bool (spB x)) ∧ w = w' := by
  rcases spB_cases x with ⟨h, h1 | ⟨h1, h2⟩ | ⟨h1, h2, h3⟩ | ⟨h1, h2, h3, h4⟩⟩ | ⟨h, h1, h2, h3, h4⟩
  all_goals
    rw [h]
    clear h
    go_enter Try.func10, Try.ntmps10
    go_wp2
    go_ret
    exact ⟨rfl, rfl⟩

set_option maxHeartbeats 400000 in
theorem zzBytesS_small (a : Option Addr) (len cap : Nat) (i j : Int) (w : World) (h : (len : Int) ≤ 1048576) :
    Calls Try.prog 8 #[.slice a len cap, .int .i64 i, .int .i64 j] w fun e w' => e = .returned (.bool true) ∧ w = w' := by
  go_enter Try.func8, Try.ntmps8
  go_wp2
  go_ret
  exact ⟨rfl, rfl⟩

set_option maxHeartbeats 400000 in
theorem zzBytesS_great (a : Option Addr) (len cap : Nat) (i j : Int) (w : World) (h : (1048576 : Int) < (len : Int)) :
    Calls Try.prog 8 #[.slice a len cap, .int .i64 i, .int .i64 j] w fun e w' => e = .returned (.bool false) ∧ w = w' := by
  go_enter Try.func8, Try.ntmps8
  go_wp2
  go_ret
  exact ⟨rfl, rfl⟩

set_option maxHeartbeats 400000 in
theorem skip_past (a : Option Addr) (len cap : Nat) (i : Int) (w : World) (h : (len : Int) ≤ i) :
    Calls Try.prog 17 #[.slice a len cap, .int .i64 i] w fun e w' => e = .returned (.int .i64 i) ∧ w = w' := by
  go_enter Try.func17, Try.ntmps17
  go_wp2
  go_loop [1] (fun v => v = .int .i64 i) (fun _ => 0)
  case atStart => rfl
  case round =>
    subst hrel
    go_wp2
    go_ret
    exact ⟨rfl, rfl⟩

set_option maxHeartbeats 1000000 in
theorem skip_any (b off len cap : Nat) (f : Nat → Int) (i : Nat) (w : World) (hl : (len : Int) ≤ 1048576) (hi : i ≤ len) (hcell : ∀ k, k < len → w.cell? ⟨b, off + k, none⟩ = some (.int .u8 (f k))) :
    Calls Try.prog 17 #[.slice (some ⟨b, off, none⟩) len cap, .int .i64 i] w fun e w' => e = .returned (.int .i64 (sk f len i)) ∧ w = w' := by
  have HC : Hid (∀ k, k < len → w.cell? ⟨b, off + k, none⟩ = some (.int .u8 (f k))) := hcell
  clear hcell
  go_enter Try.func17, Try.ntmps17
  go_wp2
  go_loop [1] (fun v => ∃ k : Nat, k ≤ len ∧ Hid (sk f len i = sk f len k) ∧ v = .int .i64 k) (fun v => len - (intOf v).toNat)
  case atStart => exact ⟨i, hi, rfl, rfl⟩
  case round =>
    obtain ⟨k, hk, HK, rfl⟩ := hrel
    by_cases hlt : k < len
    · have hc := HC.out k hlt
      rcases spB_cases (f k) with ⟨h, h1 | ⟨h1, h2⟩ | ⟨h1, h2, h3⟩ | ⟨h1, h2, h3, h4⟩⟩ | ⟨h, h1, h2, h3, h4⟩
      · have HS : Hid (sk f len i = sk f len (k + 1)) := HK.out.trans (sk_step hlt h)
        clear h
        go_wp2
        go_round
        case rel => exact ⟨k + 1, by omega, HS, by go_num⟩
        case measure => simp [intOf]; omega
      · have HS : Hid (sk f len i = sk f len (k + 1)) := HK.out.trans (sk_step hlt h)
        clear h
        go_wp2
        go_round
        case rel => exact ⟨k + 1, by omega, HS, by go_num⟩
        case measure => simp [intOf]; omega
      · have HS : Hid (sk f len i = sk f len (k + 1)) := HK.out.trans (sk_step hlt h)
        clear h
        go_wp2
        go_round
        case rel => exact ⟨k + 1, by omega, HS, by go_num⟩
        case measure => simp [intOf]; omega
      · have HS : Hid (sk f len i = sk f len (k + 1)) := HK.out.trans (sk_step hlt h)
        clear h
        go_wp2
        go_round
        case rel => exact ⟨k + 1, by omega, HS, by go_num⟩
        case measure => simp [intOf]; omega
      · have HS : Hid (sk f len i = k) := HK.out.trans (sk_stop h)
        clear h
        go_wp2
        go_ret
        exact ⟨ret_intS (by rw [HS.out]), rfl⟩
    · have HS : Hid (sk f len i = k) := HK.out.trans (sk_end (by omega))
      go_wp2
      go_ret
      exact ⟨ret_intS (by rw [HS.out]), rfl⟩

set_option maxHeartbeats 400000 in
theorem zskip_past (a : Option Addr) (len cap : Nat) (i : Int) (w : World) (h : (len : Int) ≤ i) :
    Calls Try.prog 9 #[.slice a len cap, .int .i64 i] w fun e w' => e = .returned (.int .i64 i) ∧ w = w' := by
  go_enter Try.func9, Try.ntmps9
  go_wp2_with fail
  refine (skip_past _ _ _ _ _ h).mono ?_
  rintro e w' ⟨rfl, rfl⟩
  go_wp2_with fail
  go_ret
  exact ⟨rfl, rfl⟩

set_option maxHeartbeats 400000 in
theorem zskip_any (b off len cap : Nat) (f : Nat → Int) (i : Nat) (w : World) (hl : (len : Int) ≤ 1048576) (hi : i ≤ len) (hcell : ∀ k, k < len → w.cell? ⟨b, off + k, none⟩ = some (.int .u8 (f k))) :
    Calls Try.prog 9 #[.slice (some ⟨b, off, none⟩) len cap, .int .i64 i] w fun e w' => e = .returned (.int .i64 (sk f len i)) ∧ w = w' := by
  have HC : Hid (∀ k, k < len → w.cell? ⟨b, off + k, none⟩ = some (.int .u8 (f k))) := hcell
  clear hcell
  go_enter Try.func9, Try.ntmps9
  go_wp2_with fail
  refine (skip_any _ _ _ _ _ _ _ hl hi HC.out).mono ?_
  rintro e w' ⟨rfl, rfl⟩
  go_wp2_with fail
  go_ret
  exact ⟨rfl, rfl⟩

end Go.Proofs.Qxb6619614a
