/-
  The law on hexDigit, walked: five kinds of rune.
-/
import Derived.Test.Qxb6619614aHexLaw
namespace Go.Proofs.Qxb6619614a
open Go.RowKit

set_option maxRecDepth 100000 in
set_option maxHeartbeats 1000000 in
theorem hex_other (c : Int) (w : World) (h1 : -2147483648 ≤ c) (h2 : c ≤ 2147483647) (hB : hxB c = false) (hL : ltr c = false) (hv : hxV c = 0) :
    Calls Try.prog 3 #[.int .i32 c] w fun e w' => e = .returned (.bool true) ∧ Grown w w' := by
  go_enter Try.func3, Try.ntmps3
  go_wp2_with fail
  refine (zzHexDigit_any _ _ (by omega) (by omega)).mono ?_
  rintro e w' ⟨rfl, rfl⟩
  go_wp2_with fail
  refine (isLetter_any _ _).mono ?_
  rintro e w' ⟨rfl, rfl⟩
  go_wp2_with fail
  go_loopw [12] (fun b wr => ∃ k : Nat, k ≤ 128 ∧ b = .int .i32 k ∧ Arr w wr (cnt k)) (fun b _ => 128 - (intOf b).toNat)
  case atStart => exact ⟨0, by omega, rfl, Arr.start w _⟩
  case round =>
    obtain ⟨k, hk, rfl, hA⟩ := hrel
    by_cases hlt : k < 128
    · by_cases hb : hxB (k : Int) = true
      · obtain ⟨b0, b1, bl⟩ := hx_bd hb
        have hc := hA.cell (hxV (k : Int)).toNat (by omega)
        have hf := hA.free (hxV (k : Int)).toNat
        have cb := cnt_bd k (hxV (k : Int)).toNat
        go_wp2_with (first | (go_at_call 6; refine (zzHexDigit_any _ _ (by omega) (by omega)).mono ?_; rintro e w' ⟨rfl, rfl⟩) | (go_at_call 7; refine (isLetter_any _ _).mono ?_; rintro e w' ⟨rfl, rfl⟩))
        go_roundw
        case rel => exact ⟨k + 1, by omega, by go_num, hA.hit hb⟩
        case measure => simp [intOf]; omega
      · have hb' : hxB (k : Int) = false := by simpa using hb
        go_wp2_with (first | (go_at_call 6; refine (zzHexDigit_any _ _ (by omega) (by omega)).mono ?_; rintro e w' ⟨rfl, rfl⟩) | (go_at_call 7; refine (isLetter_any _ _).mono ?_; rintro e w' ⟨rfl, rfl⟩))
        go_roundw
        case rel => exact ⟨k + 1, by omega, by go_num, hA.no hb'⟩
        case measure => simp [intOf]; omega
    · obtain rfl : k = 128 := by omega
      clear hlt hk
      go_wp2_with fail
      go_loop [15] (fun v => ∃ j : Nat, j ≤ 16 ∧ v = .int .i64 j) (fun v => 16 - (intOf v).toNat)
      case atStart => exact ⟨0, by omega, rfl⟩
      case round =>
        obtain ⟨j, hj, rfl⟩ := hrel
        by_cases hlt : j < 16
        · have hc := hA.cell j hlt
          have hn := cnt_fin hlt
          by_cases h10 : 10 ≤ j
          · rw [if_pos h10] at hn
            rw [hn] at hc
            have hq : (10 : Int) ≤ (j : Int) := by omega
            go_wp2_with fail
            go_round
            case rel => exact ⟨j + 1, by omega, by go_num⟩
            case measure => simp [intOf]; omega
          · rw [if_neg h10] at hn
            rw [hn] at hc
            have hq : ¬ (10 : Int) ≤ (j : Int) := by omega
            go_wp2_with fail
            go_round
            case rel => exact ⟨j + 1, by omega, by go_num⟩
            case measure => simp [intOf]; omega
        · go_wp2_with fail
          go_ret
          exact ⟨rfl, hA.grown⟩

set_option maxRecDepth 100000 in
set_option maxHeartbeats 1000000 in
theorem hex_letter (c : Int) (w : World) (h1 : 65 ≤ c) (h2 : c ≤ 122) (hB : hxB c = false) (hL : ltr c = true) (hv : hxV c = 0) :
    Calls Try.prog 3 #[.int .i32 c] w fun e w' => e = .returned (.bool true) ∧ Grown w w' := by
  obtain ⟨x1, x2, x3, x4⟩ := hx_fold hL
  rw [hv] at x1
  rw [hB] at x2
  go_enter Try.func3, Try.ntmps3
  go_wp2_with fail
  refine (zzHexDigit_any _ _ (by omega) (by omega)).mono ?_
  rintro e w' ⟨rfl, rfl⟩
  go_wp2_with fail
  refine (isLetter_any _ _).mono ?_
  rintro e w' ⟨rfl, rfl⟩
  go_wp2_with fail
  refine (zzHexDigit_any _ _ (by omega) (by omega)).mono ?_
  rintro e w' ⟨rfl, rfl⟩
  go_wp2_with fail
  go_loopw [12] (fun b wr => ∃ k : Nat, k ≤ 128 ∧ b = .int .i32 k ∧ Arr w wr (cnt k)) (fun b _ => 128 - (intOf b).toNat)
  case atStart => exact ⟨0, by omega, rfl, Arr.start w _⟩
  case round =>
    obtain ⟨k, hk, rfl, hA⟩ := hrel
    by_cases hlt : k < 128
    · by_cases hb : hxB (k : Int) = true
      · obtain ⟨b0, b1, bl⟩ := hx_bd hb
        have hc := hA.cell (hxV (k : Int)).toNat (by omega)
        have hf := hA.free (hxV (k : Int)).toNat
        have cb := cnt_bd k (hxV (k : Int)).toNat
        go_wp2_with (first | (go_at_call 6; refine (zzHexDigit_any _ _ (by omega) (by omega)).mono ?_; rintro e w' ⟨rfl, rfl⟩) | (go_at_call 7; refine (isLetter_any _ _).mono ?_; rintro e w' ⟨rfl, rfl⟩))
        go_roundw
        case rel => exact ⟨k + 1, by omega, by go_num, hA.hit hb⟩
        case measure => simp [intOf]; omega
      · have hb' : hxB (k : Int) = false := by simpa using hb
        go_wp2_with (first | (go_at_call 6; refine (zzHexDigit_any _ _ (by omega) (by omega)).mono ?_; rintro e w' ⟨rfl, rfl⟩) | (go_at_call 7; refine (isLetter_any _ _).mono ?_; rintro e w' ⟨rfl, rfl⟩))
        go_roundw
        case rel => exact ⟨k + 1, by omega, by go_num, hA.no hb'⟩
        case measure => simp [intOf]; omega
    · obtain rfl : k = 128 := by omega
      clear hlt hk
      go_wp2_with fail
      go_loop [15] (fun v => ∃ j : Nat, j ≤ 16 ∧ v = .int .i64 j) (fun v => 16 - (intOf v).toNat)
      case atStart => exact ⟨0, by omega, rfl⟩
      case round =>
        obtain ⟨j, hj, rfl⟩ := hrel
        by_cases hlt : j < 16
        · have hc := hA.cell j hlt
          have hn := cnt_fin hlt
          by_cases h10 : 10 ≤ j
          · rw [if_pos h10] at hn
            rw [hn] at hc
            have hq : (10 : Int) ≤ (j : Int) := by omega
            go_wp2_with fail
            go_round
            case rel => exact ⟨j + 1, by omega, by go_num⟩
            case measure => simp [intOf]; omega
          · rw [if_neg h10] at hn
            rw [hn] at hc
            have hq : ¬ (10 : Int) ≤ (j : Int) := by omega
            go_wp2_with fail
            go_round
            case rel => exact ⟨j + 1, by omega, by go_num⟩
            case measure => simp [intOf]; omega
        · go_wp2_with fail
          go_ret
          exact ⟨rfl, hA.grown⟩

set_option maxRecDepth 100000 in
set_option maxHeartbeats 1000000 in
theorem hex_digit (c : Int) (w : World) (h1 : 48 ≤ c) (h2 : c ≤ 57) :
    Calls Try.prog 3 #[.int .i32 c] w fun e w' => e = .returned (.bool true) ∧ Grown w w' := by
  obtain ⟨hB, hv, hL⟩ := hx_digit h1 h2
  go_enter Try.func3, Try.ntmps3
  go_wp2_with fail
  refine (zzHexDigit_any _ _ (by omega) (by omega)).mono ?_
  rintro e w' ⟨rfl, rfl⟩
  go_wp2_with fail
  go_loop [5] (fun v => ∃ n : Nat, (n : Int) ≤ c - 48 ∧ v = .int .i32 n) (fun v => (c - 48 - intOf v).toNat)
  case atStart => exact ⟨0, by omega, rfl⟩
  case round =>
    obtain ⟨n, hn, rfl⟩ := hrel
    by_cases hlt : (n : Int) < c - 48
    · have hb : hxB (c - 1 - (n : Int)) = true := hxB_iff.2 (by omega)
      go_wp2_with fail
      refine (zzHexDigit_any _ _ (by omega) (by omega)).mono ?_
      rintro e w' ⟨rfl, rfl⟩
      go_wp2_with fail
      go_round
      case rel => exact ⟨n + 1, by omega, by go_num⟩
      case measure => simp [intOf]; omega
    · have hb : hxB (c - 1 - (n : Int)) = false := (hx_no (by omega)).1
      have hnc : (n : Int) + 48 = c := by omega
      have hne : (c - 48 != ((n : Int))) = false := by simp; omega
      go_wp2_with fail
      refine (zzHexDigit_any _ _ (by omega) (by omega)).mono ?_
      rintro e w' ⟨rfl, rfl⟩
      go_wp2_with fail
      refine (isLetter_any _ _).mono ?_
      rintro e w' ⟨rfl, rfl⟩
      go_wp2_with fail
      refine (isLetter_any _ _).mono ?_
      rintro e w' ⟨rfl, rfl⟩
      go_wp2_with fail
      go_loopw [12] (fun b wr => ∃ k : Nat, k ≤ 128 ∧ b = .int .i32 k ∧ Arr w wr (cnt k)) (fun b _ => 128 - (intOf b).toNat)
      case atStart => exact ⟨0, by omega, rfl, Arr.start w _⟩
      case round =>
        obtain ⟨k, hk, rfl, hA⟩ := hrel
        by_cases hlt : k < 128
        · by_cases hb : hxB (k : Int) = true
          · obtain ⟨b0, b1, bl⟩ := hx_bd hb
            have hc := hA.cell (hxV (k : Int)).toNat (by omega)
            have hf := hA.free (hxV (k : Int)).toNat
            have cb := cnt_bd k (hxV (k : Int)).toNat
            go_wp2_with (first | (go_at_call 6; refine (zzHexDigit_any _ _ (by omega) (by omega)).mono ?_; rintro e w' ⟨rfl, rfl⟩) | (go_at_call 7; refine (isLetter_any _ _).mono ?_; rintro e w' ⟨rfl, rfl⟩))
            go_roundw
            case rel => exact ⟨k + 1, by omega, by go_num, hA.hit hb⟩
            case measure => simp [intOf]; omega
          · have hb' : hxB (k : Int) = false := by simpa using hb
            go_wp2_with (first | (go_at_call 6; refine (zzHexDigit_any _ _ (by omega) (by omega)).mono ?_; rintro e w' ⟨rfl, rfl⟩) | (go_at_call 7; refine (isLetter_any _ _).mono ?_; rintro e w' ⟨rfl, rfl⟩))
            go_roundw
            case rel => exact ⟨k + 1, by omega, by go_num, hA.no hb'⟩
            case measure => simp [intOf]; omega
        · obtain rfl : k = 128 := by omega
          clear hlt hk
          go_wp2_with fail
          go_loop [15] (fun v => ∃ j : Nat, j ≤ 16 ∧ v = .int .i64 j) (fun v => 16 - (intOf v).toNat)
          case atStart => exact ⟨0, by omega, rfl⟩
          case round =>
            obtain ⟨j, hj, rfl⟩ := hrel
            by_cases hlt : j < 16
            · have hc := hA.cell j hlt
              have hn := cnt_fin hlt
              by_cases h10 : 10 ≤ j
              · rw [if_pos h10] at hn
                rw [hn] at hc
                have hq : (10 : Int) ≤ (j : Int) := by omega
                go_wp2_with fail
                go_round
                case rel => exact ⟨j + 1, by omega, by go_num⟩
                case measure => simp [intOf]; omega
              · rw [if_neg h10] at hn
                rw [hn] at hc
                have hq : ¬ (10 : Int) ≤ (j : Int) := by omega
                go_wp2_with fail
                go_round
                case rel => exact ⟨j + 1, by omega, by go_num⟩
                case measure => simp [intOf]; omega
            · go_wp2_with fail
              go_ret
              exact ⟨rfl, hA.grown⟩

set_option maxRecDepth 100000 in
set_option maxHeartbeats 1000000 in
theorem hex_small (c : Int) (w : World) (h1 : 97 ≤ c) (h2 : c ≤ 102) :
    Calls Try.prog 3 #[.int .i32 c] w fun e w' => e = .returned (.bool true) ∧ Grown w w' := by
  obtain ⟨hB, hv, hL⟩ := hx_small h1 h2
  obtain ⟨x1, x2, x3, x4⟩ := hx_fold hL
  rw [hv] at x1
  rw [hB] at x2
  go_enter Try.func3, Try.ntmps3
  go_wp2_with fail
  refine (zzHexDigit_any _ _ (by omega) (by omega)).mono ?_
  rintro e w' ⟨rfl, rfl⟩
  go_wp2_with fail
  go_loop [5] (fun v => ∃ n : Nat, (n : Int) ≤ c - 97 ∧ v = .int .i32 n) (fun v => (c - 97 - intOf v).toNat)
  case atStart => exact ⟨0, by omega, rfl⟩
  case round =>
    obtain ⟨n, hn, rfl⟩ := hrel
    by_cases hlt : (n : Int) < c - 97
    · have hb : hxB (c - 1 - (n : Int)) = true := hxB_iff.2 (by omega)
      go_wp2_with fail
      refine (zzHexDigit_any _ _ (by omega) (by omega)).mono ?_
      rintro e w' ⟨rfl, rfl⟩
      go_wp2_with fail
      go_round
      case rel => exact ⟨n + 1, by omega, by go_num⟩
      case measure => simp [intOf]; omega
    · have hb : hxB (c - 1 - (n : Int)) = false := (hx_no (by omega)).1
      have hnc : (n : Int) + 97 = c := by omega
      have hne : (c - 87 != (10 + (n : Int))) = false := by simp; omega
      go_wp2_with fail
      refine (zzHexDigit_any _ _ (by omega) (by omega)).mono ?_
      rintro e w' ⟨rfl, rfl⟩
      go_wp2_with fail
      refine (isLetter_any _ _).mono ?_
      rintro e w' ⟨rfl, rfl⟩
      go_wp2_with fail
      refine (isLetter_any _ _).mono ?_
      rintro e w' ⟨rfl, rfl⟩
      go_wp2_with fail
      refine (zzHexDigit_any _ _ (by omega) (by omega)).mono ?_
      rintro e w' ⟨rfl, rfl⟩
      go_wp2_with fail
      go_loopw [12] (fun b wr => ∃ k : Nat, k ≤ 128 ∧ b = .int .i32 k ∧ Arr w wr (cnt k)) (fun b _ => 128 - (intOf b).toNat)
      case atStart => exact ⟨0, by omega, rfl, Arr.start w _⟩
      case round =>
        obtain ⟨k, hk, rfl, hA⟩ := hrel
        by_cases hlt : k < 128
        · by_cases hb : hxB (k : Int) = true
          · obtain ⟨b0, b1, bl⟩ := hx_bd hb
            have hc := hA.cell (hxV (k : Int)).toNat (by omega)
            have hf := hA.free (hxV (k : Int)).toNat
            have cb := cnt_bd k (hxV (k : Int)).toNat
            go_wp2_with (first | (go_at_call 6; refine (zzHexDigit_any _ _ (by omega) (by omega)).mono ?_; rintro e w' ⟨rfl, rfl⟩) | (go_at_call 7; refine (isLetter_any _ _).mono ?_; rintro e w' ⟨rfl, rfl⟩))
            go_roundw
            case rel => exact ⟨k + 1, by omega, by go_num, hA.hit hb⟩
            case measure => simp [intOf]; omega
          · have hb' : hxB (k : Int) = false := by simpa using hb
            go_wp2_with (first | (go_at_call 6; refine (zzHexDigit_any _ _ (by omega) (by omega)).mono ?_; rintro e w' ⟨rfl, rfl⟩) | (go_at_call 7; refine (isLetter_any _ _).mono ?_; rintro e w' ⟨rfl, rfl⟩))
            go_roundw
            case rel => exact ⟨k + 1, by omega, by go_num, hA.no hb'⟩
            case measure => simp [intOf]; omega
        · obtain rfl : k = 128 := by omega
          clear hlt hk
          go_wp2_with fail
          go_loop [15] (fun v => ∃ j : Nat, j ≤ 16 ∧ v = .int .i64 j) (fun v => 16 - (intOf v).toNat)
          case atStart => exact ⟨0, by omega, rfl⟩
          case round =>
            obtain ⟨j, hj, rfl⟩ := hrel
            by_cases hlt : j < 16
            · have hc := hA.cell j hlt
              have hn := cnt_fin hlt
              by_cases h10 : 10 ≤ j
              · rw [if_pos h10] at hn
                rw [hn] at hc
                have hq : (10 : Int) ≤ (j : Int) := by omega
                go_wp2_with fail
                go_round
                case rel => exact ⟨j + 1, by omega, by go_num⟩
                case measure => simp [intOf]; omega
              · rw [if_neg h10] at hn
                rw [hn] at hc
                have hq : ¬ (10 : Int) ≤ (j : Int) := by omega
                go_wp2_with fail
                go_round
                case rel => exact ⟨j + 1, by omega, by go_num⟩
                case measure => simp [intOf]; omega
            · go_wp2_with fail
              go_ret
              exact ⟨rfl, hA.grown⟩

set_option maxRecDepth 100000 in
set_option maxHeartbeats 1000000 in
theorem hex_great (c : Int) (w : World) (h1 : 65 ≤ c) (h2 : c ≤ 70) :
    Calls Try.prog 3 #[.int .i32 c] w fun e w' => e = .returned (.bool true) ∧ Grown w w' := by
  obtain ⟨hB, hv, hL⟩ := hx_great h1 h2
  obtain ⟨x1, x2, x3, x4⟩ := hx_fold hL
  rw [hv] at x1
  rw [hB] at x2
  go_enter Try.func3, Try.ntmps3
  go_wp2_with fail
  refine (zzHexDigit_any _ _ (by omega) (by omega)).mono ?_
  rintro e w' ⟨rfl, rfl⟩
  go_wp2_with fail
  go_loop [5] (fun v => ∃ n : Nat, (n : Int) ≤ c - 65 ∧ v = .int .i32 n) (fun v => (c - 65 - intOf v).toNat)
  case atStart => exact ⟨0, by omega, rfl⟩
  case round =>
    obtain ⟨n, hn, rfl⟩ := hrel
    by_cases hlt : (n : Int) < c - 65
    · have hb : hxB (c - 1 - (n : Int)) = true := hxB_iff.2 (by omega)
      go_wp2_with fail
      refine (zzHexDigit_any _ _ (by omega) (by omega)).mono ?_
      rintro e w' ⟨rfl, rfl⟩
      go_wp2_with fail
      go_round
      case rel => exact ⟨n + 1, by omega, by go_num⟩
      case measure => simp [intOf]; omega
    · have hb : hxB (c - 1 - (n : Int)) = false := (hx_no (by omega)).1
      have hnc : (n : Int) + 65 = c := by omega
      have hne : (c - 55 != (10 + (n : Int))) = false := by simp; omega
      go_wp2_with fail
      refine (zzHexDigit_any _ _ (by omega) (by omega)).mono ?_
      rintro e w' ⟨rfl, rfl⟩
      go_wp2_with fail
      refine (isLetter_any _ _).mono ?_
      rintro e w' ⟨rfl, rfl⟩
      go_wp2_with fail
      refine (isLetter_any _ _).mono ?_
      rintro e w' ⟨rfl, rfl⟩
      go_wp2_with fail
      refine (zzHexDigit_any _ _ (by omega) (by omega)).mono ?_
      rintro e w' ⟨rfl, rfl⟩
      go_wp2_with fail
      go_loopw [12] (fun b wr => ∃ k : Nat, k ≤ 128 ∧ b = .int .i32 k ∧ Arr w wr (cnt k)) (fun b _ => 128 - (intOf b).toNat)
      case atStart => exact ⟨0, by omega, rfl, Arr.start w _⟩
      case round =>
        obtain ⟨k, hk, rfl, hA⟩ := hrel
        by_cases hlt : k < 128
        · by_cases hb : hxB (k : Int) = true
          · obtain ⟨b0, b1, bl⟩ := hx_bd hb
            have hc := hA.cell (hxV (k : Int)).toNat (by omega)
            have hf := hA.free (hxV (k : Int)).toNat
            have cb := cnt_bd k (hxV (k : Int)).toNat
            go_wp2_with (first | (go_at_call 6; refine (zzHexDigit_any _ _ (by omega) (by omega)).mono ?_; rintro e w' ⟨rfl, rfl⟩) | (go_at_call 7; refine (isLetter_any _ _).mono ?_; rintro e w' ⟨rfl, rfl⟩))
            go_roundw
            case rel => exact ⟨k + 1, by omega, by go_num, hA.hit hb⟩
            case measure => simp [intOf]; omega
          · have hb' : hxB (k : Int) = false := by simpa using hb
            go_wp2_with (first | (go_at_call 6; refine (zzHexDigit_any _ _ (by omega) (by omega)).mono ?_; rintro e w' ⟨rfl, rfl⟩) | (go_at_call 7; refine (isLetter_any _ _).mono ?_; rintro e w' ⟨rfl, rfl⟩))
            go_roundw
            case rel => exact ⟨k + 1, by omega, by go_num, hA.no hb'⟩
            case measure => simp [intOf]; omega
        · obtain rfl : k = 128 := by omega
          clear hlt hk
          go_wp2_with fail
          go_loop [15] (fun v => ∃ j : Nat, j ≤ 16 ∧ v = .int .i64 j) (fun v => 16 - (intOf v).toNat)
          case atStart => exact ⟨0, by omega, rfl⟩
          case round =>
            obtain ⟨j, hj, rfl⟩ := hrel
            by_cases hlt : j < 16
            · have hc := hA.cell j hlt
              have hn := cnt_fin hlt
              by_cases h10 : 10 ≤ j
              · rw [if_pos h10] at hn
                rw [hn] at hc
                have hq : (10 : Int) ≤ (j : Int) := by omega
                go_wp2_with fail
                go_round
                case rel => exact ⟨j + 1, by omega, by go_num⟩
                case measure => simp [intOf]; omega
              · rw [if_neg h10] at hn
                rw [hn] at hc
                have hq : ¬ (10 : Int) ≤ (j : Int) := by omega
                go_wp2_with fail
                go_round
                case rel => exact ⟨j + 1, by omega, by go_num⟩
                case measure => simp [intOf]; omega
            · go_wp2_with fail
              go_ret
              exact ⟨rfl, hA.grown⟩

theorem hex_walk (c : Int) (w : World) (h1 : -2147483648 ≤ c) (h2 : c ≤ 2147483647) :
    Calls Try.prog 3 #[.int .i32 c] w fun e w' => e = .returned (.bool true) ∧ Grown w w' := by
  by_cases a : 48 ≤ c ∧ c ≤ 57
  · exact hex_digit c w a.1 a.2
  · by_cases b : 97 ≤ c ∧ c ≤ 102
    · exact hex_small c w b.1 b.2
    · by_cases d : 65 ≤ c ∧ c ≤ 70
      · exact hex_great c w d.1 d.2
      · obtain ⟨n1, n2⟩ := hx_no (c := c) (by omega)
        by_cases l : (97 ≤ c ∧ c ≤ 122) ∨ (65 ≤ c ∧ c ≤ 90)
        · exact hex_letter c w (by omega) (by omega) n1 (ltr_iff.2 l) n2
        · exact hex_other c w h1 h2 n1 (by unfold ltr; simp; omega) n2

end Go.Proofs.Qxb6619614a
