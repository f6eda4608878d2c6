/-
  The law on skipSpace, walked: one theorem a way through it.
-/
import Derived.Test.Qxb6619614aSkipCopy
namespace Go.Proofs.Qxb6619614a
open Go.RowKit

set_option maxRecDepth 100000 in
set_option maxHeartbeats 1000000 in
theorem skip_T1 (b off len cap : Nat) (f : Nat → Int) (i j r : Nat) (w : World) (hl : (len : Int) ≤ 1048576) (hj : j < len) (hij : i < j) (hrj : r < j) (HJ : Hid (sk f j i = r))
    (hil : i < len) (HR : Hid (sk f len i = r)) (hir : i ≤ r) (hrl : r ≤ len) (HSp : Hid (∀ k, i ≤ k → k < r → spB (f k) = true)) (HNs : Hid (r < len → spB (f r) = false)) (HR2 : Hid (sk f len r = r))
    (hcell : ∀ k, k < len → w.cell? ⟨b, off + k, none⟩ = some (.int .u8 (f k))) :
    Calls Try.prog 4 #[.slice (some ⟨b, off, none⟩) len cap, .int .i64 i, .int .i64 j] w fun e w' => e = .returned (.bool true) ∧ Below w.heap.size w w' := by
  obtain ⟨W2, hcp, hrow, hbel⟩ := copy_new w b off len cap f hcell
  clear hcell
  have kn := fun (w : World) => run_neq_slice_nil_any (P := Try.prog) w 26 5 (some ⟨b, off, none⟩) len cap 0 0 Try.underlying26
  have hmk := run_make_row' (P := Try.prog) 26 5 (.int .u8 0) 1 Try.underlying26 info5 rfl .i64 .i64 len (by omega) (by omega)
  have d1 : decide ((1048576 : Int) < (len : Int)) = false := by simp; omega
  have d2 : decide ((i : Int) < 0) = false := by simp
  have d3 : decide ((j : Int) < 0) = false := by simp
  have d4 : decide (len < j) = false := by simp; omega
  have d5 : decide (len ≤ i) = false := by simp; omega
  have d6 : decide (r < i) = false := by simp; omega
  have d7 : decide (len < r) = false := by simp; omega
  go_enter Try.func4, Try.ntmps4
  go_wp2_with fail
  refine (zzBytesS_small _ _ _ _ _ _ hl).mono ?_
  rintro e w' ⟨rfl, rfl⟩
  go_wp2_with fail
  refine (zskip_any _ _ _ _ f _ _ hl (by omega) (fun k hk => ?_)).mono ?_
  · rw [Nat.zero_add]
    exact hrow.cell hk
  rintro e w' ⟨rfl, rfl⟩
  rw [HR.out]
  go_wp2_with fail
  go_loop [9] (fun v => ∃ k : Nat, i ≤ k ∧ k ≤ r ∧ v = .int .i64 k) (fun v => r - (intOf v).toNat)
  case atStart => exact ⟨i, by omega, hir, rfl⟩
  case round =>
    obtain ⟨k, hk1, hk2, rfl⟩ := hrel
    by_cases hlt : k < r
    · have hc := hrow.cell (show k < len by omega)
      have hs := HSp.out k hk1 hlt
      go_wp2_with (go_at_call 10; refine (isSpace_any _ _).mono ?_; rintro e w' ⟨rfl, rfl⟩)
      go_round
      case rel => exact ⟨k + 1, by omega, by omega, by go_num⟩
      case measure => simp [intOf]; omega
    · by_cases hre : r < len
      · have hc := hrow.cell hre
        have hs := HNs.out hre
        go_wp2_with (go_at_call 10; refine (isSpace_any _ _).mono ?_; rintro e w' ⟨rfl, rfl⟩)
        refine (zskip_any _ _ _ _ f _ _ (by omega) (by omega) (fun k hk => ?_)).mono ?_
        · rw [Nat.zero_add]
          exact hrow.cell (by omega)
        rintro e w' ⟨rfl, rfl⟩
        rw [HJ.out]
        go_wp2_with fail
        refine (zskip_any _ _ _ _ f _ _ hl (by omega) (fun k hk => ?_)).mono ?_
        · rw [Nat.zero_add]
          exact hrow.cell hk
        rintro e w' ⟨rfl, rfl⟩
        rw [HR2.out]
        go_wp2_with fail
        go_ret
        exact ⟨rfl, hbel⟩
      · go_wp2_with fail
        omega

set_option maxRecDepth 100000 in
set_option maxHeartbeats 1000000 in
theorem skip_T2 (b off len cap : Nat) (f : Nat → Int) (i j r s : Nat) (w : World) (hl : (len : Int) ≤ 1048576) (hj : j < len) (hij : i < j) (HJ : Hid (sk f j i = j)) (HS : Hid (sk (fun k => f (j + k)) (len - j) 0 = s)) (hs1 : r ≤ j + s) (hs2 : j + s ≤ r)
    (hil : i < len) (HR : Hid (sk f len i = r)) (hir : i ≤ r) (hrl : r ≤ len) (HSp : Hid (∀ k, i ≤ k → k < r → spB (f k) = true)) (HNs : Hid (r < len → spB (f r) = false)) (HR2 : Hid (sk f len r = r))
    (hcell : ∀ k, k < len → w.cell? ⟨b, off + k, none⟩ = some (.int .u8 (f k))) :
    Calls Try.prog 4 #[.slice (some ⟨b, off, none⟩) len cap, .int .i64 i, .int .i64 j] w fun e w' => e = .returned (.bool true) ∧ Below w.heap.size w w' := by
  obtain ⟨W2, hcp, hrow, hbel⟩ := copy_new w b off len cap f hcell
  clear hcell
  have kn := fun (w : World) => run_neq_slice_nil_any (P := Try.prog) w 26 5 (some ⟨b, off, none⟩) len cap 0 0 Try.underlying26
  have hmk := run_make_row' (P := Try.prog) 26 5 (.int .u8 0) 1 Try.underlying26 info5 rfl .i64 .i64 len (by omega) (by omega)
  have d1 : decide ((1048576 : Int) < (len : Int)) = false := by simp; omega
  have d2 : decide ((i : Int) < 0) = false := by simp
  have d3 : decide ((j : Int) < 0) = false := by simp
  have d4 : decide (len < j) = false := by simp; omega
  have d5 : decide (len ≤ i) = false := by simp; omega
  have d6 : decide (r < i) = false := by simp; omega
  have d7 : decide (len < r) = false := by simp; omega
  go_enter Try.func4, Try.ntmps4
  go_wp2_with fail
  refine (zzBytesS_small _ _ _ _ _ _ hl).mono ?_
  rintro e w' ⟨rfl, rfl⟩
  go_wp2_with fail
  refine (zskip_any _ _ _ _ f _ _ hl (by omega) (fun k hk => ?_)).mono ?_
  · rw [Nat.zero_add]
    exact hrow.cell hk
  rintro e w' ⟨rfl, rfl⟩
  rw [HR.out]
  go_wp2_with fail
  go_loop [9] (fun v => ∃ k : Nat, i ≤ k ∧ k ≤ r ∧ v = .int .i64 k) (fun v => r - (intOf v).toNat)
  case atStart => exact ⟨i, by omega, hir, rfl⟩
  case round =>
    obtain ⟨k, hk1, hk2, rfl⟩ := hrel
    by_cases hlt : k < r
    · have hc := hrow.cell (show k < len by omega)
      have hs := HSp.out k hk1 hlt
      go_wp2_with (go_at_call 10; refine (isSpace_any _ _).mono ?_; rintro e w' ⟨rfl, rfl⟩)
      go_round
      case rel => exact ⟨k + 1, by omega, by omega, by go_num⟩
      case measure => simp [intOf]; omega
    · by_cases hre : r < len
      · have hc := hrow.cell hre
        have hs := HNs.out hre
        go_wp2_with (go_at_call 10; refine (isSpace_any _ _).mono ?_; rintro e w' ⟨rfl, rfl⟩)
        refine (zskip_any _ _ _ _ f _ _ (by omega) (by omega) (fun k hk => ?_)).mono ?_
        · rw [Nat.zero_add]
          exact hrow.cell (by omega)
        rintro e w' ⟨rfl, rfl⟩
        rw [HJ.out]
        go_wp2_with fail
        refine (zskip_any _ _ _ _ (fun k => f (j + k)) 0 _ (by omega) (by omega) (fun k hk => ?_)).mono ?_
        · exact hrow.cell (by omega)
        rintro e w' ⟨rfl, rfl⟩
        rw [HS.out]
        go_wp2_with fail
        refine (zskip_any _ _ _ _ f _ _ hl (by omega) (fun k hk => ?_)).mono ?_
        · rw [Nat.zero_add]
          exact hrow.cell hk
        rintro e w' ⟨rfl, rfl⟩
        rw [HR2.out]
        go_wp2_with fail
        go_ret
        exact ⟨rfl, hbel⟩
      · go_wp2_with fail
        refine (zskip_any _ _ _ _ f _ _ (by omega) (by omega) (fun k hk => ?_)).mono ?_
        · rw [Nat.zero_add]
          exact hrow.cell (by omega)
        rintro e w' ⟨rfl, rfl⟩
        rw [HJ.out]
        go_wp2_with fail
        refine (zskip_any _ _ _ _ (fun k => f (j + k)) 0 _ (by omega) (by omega) (fun k hk => ?_)).mono ?_
        · exact hrow.cell (by omega)
        rintro e w' ⟨rfl, rfl⟩
        rw [HS.out]
        go_wp2_with fail
        refine (zskip_any _ _ _ _ f _ _ hl (by omega) (fun k hk => ?_)).mono ?_
        · rw [Nat.zero_add]
          exact hrow.cell hk
        rintro e w' ⟨rfl, rfl⟩
        rw [HR2.out]
        go_wp2_with fail
        go_ret
        exact ⟨rfl, hbel⟩

set_option maxRecDepth 100000 in
set_option maxHeartbeats 1000000 in
theorem skip_T3 (b off len cap : Nat) (f : Nat → Int) (i j r s : Nat) (w : World) (hl : (len : Int) ≤ 1048576) (hj : j < len) (hij : j ≤ i) (HS : Hid (sk (fun k => f (j + k)) (len - j) (i - j) = s)) (hs1 : r ≤ j + s) (hs2 : j + s ≤ r)
    (hil : i < len) (HR : Hid (sk f len i = r)) (hir : i ≤ r) (hrl : r ≤ len) (HSp : Hid (∀ k, i ≤ k → k < r → spB (f k) = true)) (HNs : Hid (r < len → spB (f r) = false)) (HR2 : Hid (sk f len r = r))
    (hcell : ∀ k, k < len → w.cell? ⟨b, off + k, none⟩ = some (.int .u8 (f k))) :
    Calls Try.prog 4 #[.slice (some ⟨b, off, none⟩) len cap, .int .i64 i, .int .i64 j] w fun e w' => e = .returned (.bool true) ∧ Below w.heap.size w w' := by
  obtain ⟨W2, hcp, hrow, hbel⟩ := copy_new w b off len cap f hcell
  clear hcell
  have kn := fun (w : World) => run_neq_slice_nil_any (P := Try.prog) w 26 5 (some ⟨b, off, none⟩) len cap 0 0 Try.underlying26
  have hmk := run_make_row' (P := Try.prog) 26 5 (.int .u8 0) 1 Try.underlying26 info5 rfl .i64 .i64 len (by omega) (by omega)
  have d1 : decide ((1048576 : Int) < (len : Int)) = false := by simp; omega
  have d2 : decide ((i : Int) < 0) = false := by simp
  have d3 : decide ((j : Int) < 0) = false := by simp
  have d4 : decide (len < j) = false := by simp; omega
  have d5 : decide (len ≤ i) = false := by simp; omega
  have d6 : decide (r < i) = false := by simp; omega
  have d7 : decide (len < r) = false := by simp; omega
  go_enter Try.func4, Try.ntmps4
  go_wp2_with fail
  refine (zzBytesS_small _ _ _ _ _ _ hl).mono ?_
  rintro e w' ⟨rfl, rfl⟩
  go_wp2_with fail
  refine (zskip_any _ _ _ _ f _ _ hl (by omega) (fun k hk => ?_)).mono ?_
  · rw [Nat.zero_add]
    exact hrow.cell hk
  rintro e w' ⟨rfl, rfl⟩
  rw [HR.out]
  go_wp2_with fail
  go_loop [9] (fun v => ∃ k : Nat, i ≤ k ∧ k ≤ r ∧ v = .int .i64 k) (fun v => r - (intOf v).toNat)
  case atStart => exact ⟨i, by omega, hir, rfl⟩
  case round =>
    obtain ⟨k, hk1, hk2, rfl⟩ := hrel
    by_cases hlt : k < r
    · have hc := hrow.cell (show k < len by omega)
      have hs := HSp.out k hk1 hlt
      go_wp2_with (go_at_call 10; refine (isSpace_any _ _).mono ?_; rintro e w' ⟨rfl, rfl⟩)
      go_round
      case rel => exact ⟨k + 1, by omega, by omega, by go_num⟩
      case measure => simp [intOf]; omega
    · by_cases hre : r < len
      · have hc := hrow.cell hre
        have hs := HNs.out hre
        go_wp2_with (go_at_call 10; refine (isSpace_any _ _).mono ?_; rintro e w' ⟨rfl, rfl⟩)
        rw [show (i : Int) - (j : Int) = ((i - j : Nat) : Int) from by omega]
        refine (zskip_any _ _ _ _ (fun k => f (j + k)) _ _ (by omega) (by omega) (fun k hk => ?_)).mono ?_
        · exact hrow.cell (by omega)
        rintro e w' ⟨rfl, rfl⟩
        rw [HS.out]
        go_wp2_with fail
        refine (zskip_any _ _ _ _ f _ _ hl (by omega) (fun k hk => ?_)).mono ?_
        · rw [Nat.zero_add]
          exact hrow.cell hk
        rintro e w' ⟨rfl, rfl⟩
        rw [HR2.out]
        go_wp2_with fail
        go_ret
        exact ⟨rfl, hbel⟩
      · go_wp2_with fail
        rw [show (i : Int) - (j : Int) = ((i - j : Nat) : Int) from by omega]
        refine (zskip_any _ _ _ _ (fun k => f (j + k)) _ _ (by omega) (by omega) (fun k hk => ?_)).mono ?_
        · exact hrow.cell (by omega)
        rintro e w' ⟨rfl, rfl⟩
        rw [HS.out]
        go_wp2_with fail
        refine (zskip_any _ _ _ _ f _ _ hl (by omega) (fun k hk => ?_)).mono ?_
        · rw [Nat.zero_add]
          exact hrow.cell hk
        rintro e w' ⟨rfl, rfl⟩
        rw [HR2.out]
        go_wp2_with fail
        go_ret
        exact ⟨rfl, hbel⟩

set_option maxRecDepth 100000 in
set_option maxHeartbeats 1000000 in
theorem skip_T4 (b off len cap : Nat) (f : Nat → Int) (i r : Nat) (w : World) (hl : (len : Int) ≤ 1048576)
    (hil : i < len) (HR : Hid (sk f len i = r)) (hir : i ≤ r) (hrl : r ≤ len) (HSp : Hid (∀ k, i ≤ k → k < r → spB (f k) = true)) (HNs : Hid (r < len → spB (f r) = false)) (HR2 : Hid (sk f len r = r))
    (hcell : ∀ k, k < len → w.cell? ⟨b, off + k, none⟩ = some (.int .u8 (f k))) :
    Calls Try.prog 4 #[.slice (some ⟨b, off, none⟩) len cap, .int .i64 i, .int .i64 len] w fun e w' => e = .returned (.bool true) ∧ Below w.heap.size w w' := by
  obtain ⟨W2, hcp, hrow, hbel⟩ := copy_new w b off len cap f hcell
  clear hcell
  have kn := fun (w : World) => run_neq_slice_nil_any (P := Try.prog) w 26 5 (some ⟨b, off, none⟩) len cap 0 0 Try.underlying26
  have hmk := run_make_row' (P := Try.prog) 26 5 (.int .u8 0) 1 Try.underlying26 info5 rfl .i64 .i64 len (by omega) (by omega)
  have d1 : decide ((1048576 : Int) < (len : Int)) = false := by simp; omega
  have d2 : decide ((i : Int) < 0) = false := by simp
  have d3 : decide ((len : Int) < 0) = false := by simp
  have d4 : decide (len < len) = false := by simp
  have d5 : decide (len ≤ i) = false := by simp; omega
  have d6 : decide (r < i) = false := by simp; omega
  have d7 : decide (len < r) = false := by simp; omega
  go_enter Try.func4, Try.ntmps4
  go_wp2_with fail
  refine (zzBytesS_small _ _ _ _ _ _ hl).mono ?_
  rintro e w' ⟨rfl, rfl⟩
  go_wp2_with fail
  refine (zskip_any _ _ _ _ f _ _ hl (by omega) (fun k hk => ?_)).mono ?_
  · rw [Nat.zero_add]
    exact hrow.cell hk
  rintro e w' ⟨rfl, rfl⟩
  rw [HR.out]
  go_wp2_with fail
  go_loop [9] (fun v => ∃ k : Nat, i ≤ k ∧ k ≤ r ∧ v = .int .i64 k) (fun v => r - (intOf v).toNat)
  case atStart => exact ⟨i, by omega, hir, rfl⟩
  case round =>
    obtain ⟨k, hk1, hk2, rfl⟩ := hrel
    by_cases hlt : k < r
    · have hc := hrow.cell (show k < len by omega)
      have hs := HSp.out k hk1 hlt
      go_wp2_with (go_at_call 10; refine (isSpace_any _ _).mono ?_; rintro e w' ⟨rfl, rfl⟩)
      go_round
      case rel => exact ⟨k + 1, by omega, by omega, by go_num⟩
      case measure => simp [intOf]; omega
    · by_cases hre : r < len
      · have hc := hrow.cell hre
        have hs := HNs.out hre
        go_wp2_with (go_at_call 10; refine (isSpace_any _ _).mono ?_; rintro e w' ⟨rfl, rfl⟩)
        refine (zskip_any _ _ _ _ f _ _ (by omega) (by omega) (fun k hk => ?_)).mono ?_
        · rw [Nat.zero_add]
          exact hrow.cell (by omega)
        rintro e w' ⟨rfl, rfl⟩
        rw [HR.out]
        go_wp2_with fail
        refine (zskip_any _ _ _ _ f _ _ hl (by omega) (fun k hk => ?_)).mono ?_
        · rw [Nat.zero_add]
          exact hrow.cell hk
        rintro e w' ⟨rfl, rfl⟩
        rw [HR2.out]
        go_wp2_with fail
        go_ret
        exact ⟨rfl, hbel⟩
      · go_wp2_with fail
        refine (zskip_any _ _ _ _ f _ _ (by omega) (by omega) (fun k hk => ?_)).mono ?_
        · rw [Nat.zero_add]
          exact hrow.cell (by omega)
        rintro e w' ⟨rfl, rfl⟩
        rw [HR.out]
        go_wp2_with fail
        refine (zskip_past _ _ _ _ _ (by omega)).mono ?_
        rintro e w' ⟨rfl, rfl⟩
        go_wp2_with fail
        refine (zskip_any _ _ _ _ f _ _ hl (by omega) (fun k hk => ?_)).mono ?_
        · rw [Nat.zero_add]
          exact hrow.cell hk
        rintro e w' ⟨rfl, rfl⟩
        rw [HR2.out]
        go_wp2_with fail
        go_ret
        exact ⟨rfl, hbel⟩

set_option maxRecDepth 100000 in
set_option maxHeartbeats 1000000 in
theorem skip_TA (b off len cap : Nat) (f : Nat → Int) (i : Int) (j : Nat) (w : World) (hl : (len : Int) ≤ 1048576) (hj : j ≤ len) (hi : i ≤ 9223372036854775807)
    (hil : (len : Int) ≤ i) (hcell : ∀ k, k < len → w.cell? ⟨b, off + k, none⟩ = some (.int .u8 (f k))) :
    Calls Try.prog 4 #[.slice (some ⟨b, off, none⟩) len cap, .int .i64 i, .int .i64 j] w fun e w' => e = .returned (.bool true) ∧ Below w.heap.size w w' := by
  obtain ⟨W2, hcp, hrow, hbel⟩ := copy_new w b off len cap f hcell
  clear hcell
  have kn := fun (w : World) => run_neq_slice_nil_any (P := Try.prog) w 26 5 (some ⟨b, off, none⟩) len cap 0 0 Try.underlying26
  have hmk := run_make_row' (P := Try.prog) 26 5 (.int .u8 0) 1 Try.underlying26 info5 rfl .i64 .i64 len (by omega) (by omega)
  have d1 : decide ((1048576 : Int) < (len : Int)) = false := by simp; omega
  have d2 : decide (i < 0) = false := by simp; omega
  have d3 : decide ((j : Int) < 0) = false := by simp
  have d4 : decide (len < j) = false := by simp; omega
  go_enter Try.func4, Try.ntmps4
  go_wp2_with fail
  refine (zzBytesS_small _ _ _ _ _ _ hl).mono ?_
  rintro e w' ⟨rfl, rfl⟩
  go_wp2_with fail
  refine (zskip_past _ _ _ _ _ hil).mono ?_
  rintro e w' ⟨rfl, rfl⟩
  go_wp2_with fail
  all_goals
    refine (zskip_past _ _ _ _ _ (by omega)).mono ?_
    rintro e w' ⟨rfl, rfl⟩
    go_wp2_with fail
    refine (zskip_past _ _ _ _ _ (by omega)).mono ?_
    rintro e w' ⟨rfl, rfl⟩
    go_wp2_with fail
    go_ret
    exact ⟨rfl, hbel⟩

set_option maxRecDepth 100000 in
set_option maxHeartbeats 1000000 in
theorem skip_nil (i : Int) (w : World) (hi0 : 0 ≤ i) (hi : i ≤ 9223372036854775807) :
    Calls Try.prog 4 #[.slice none 0 0, .int .i64 i, .int .i64 0] w fun e w' => e = .returned (.bool true) ∧ Below w.heap.size w w' := by
  have kn := fun (w : World) => run_neq_slice_nil_any (P := Try.prog) w 26 5 none 0 0 0 0 Try.underlying26
  go_enter Try.func4, Try.ntmps4
  go_wp2_with fail
  refine (zzBytesS_small _ 0 0 _ _ _ (by omega)).mono ?_
  rintro e w' ⟨rfl, rfl⟩
  go_wp2_with fail
  refine (zskip_past _ 0 0 _ _ hi0).mono ?_
  rintro e w' ⟨rfl, rfl⟩
  go_wp2_with fail
  refine (zskip_past _ 0 0 _ _ (by omega)).mono ?_
  rintro e w' ⟨rfl, rfl⟩
  go_wp2_with fail
  refine (zskip_past _ 0 0 _ _ (by omega)).mono ?_
  rintro e w' ⟨rfl, rfl⟩
  go_wp2_with fail
  go_ret
  exact ⟨rfl, Below.refl _ _⟩

set_option maxRecDepth 100000 in
set_option maxHeartbeats 1000000 in
theorem skip_great (a : Option Addr) (len cap : Nat) (i j : Int) (w : World) (hl : (1048576 : Int) < (len : Int)) :
    Calls Try.prog 4 #[.slice a len cap, .int .i64 i, .int .i64 j] w fun e w' => e = .returned (.bool true) ∧ Below w.heap.size w w' := by
  go_enter Try.func4, Try.ntmps4
  go_wp2_with fail
  refine (zzBytesS_great _ _ _ _ _ _ hl).mono ?_
  rintro e w' ⟨rfl, rfl⟩
  go_wp2_with fail
  go_ret
  exact ⟨rfl, Below.refl _ _⟩

set_option maxRecDepth 100000 in
set_option maxHeartbeats 1000000 in
theorem skip_early (a : Option Addr) (len cap : Nat) (i j : Int) (w : World) (hl : (len : Int) ≤ 1048576) (h : i < 0 ∨ (0 ≤ i ∧ j < 0) ∨ (0 ≤ i ∧ 0 ≤ j ∧ (len : Int) < j)) :
    Calls Try.prog 4 #[.slice a len cap, .int .i64 i, .int .i64 j] w fun e w' => e = .returned (.bool true) ∧ Below w.heap.size w w' := by
  rcases h with h | ⟨h1, h⟩ | ⟨h1, h2, h⟩
  all_goals
    go_enter Try.func4, Try.ntmps4
    go_wp2_with fail
    refine (zzBytesS_small _ _ _ _ _ _ hl).mono ?_
    rintro e w' ⟨rfl, rfl⟩
    go_wp2_with fail
    go_ret
    exact ⟨rfl, Below.refl _ _⟩

theorem skip_main (b off len cap : Nat) (f : Nat → Int) (i j : Nat) (w : World) (hl : (len : Int) ≤ 1048576) (hj : j ≤ len) (hi : (i : Int) ≤ 9223372036854775807)
    (hcell : ∀ k, k < len → w.cell? ⟨b, off + k, none⟩ = some (.int .u8 (f k))) :
    Calls Try.prog 4 #[.slice (some ⟨b, off, none⟩) len cap, .int .i64 i, .int .i64 j] w fun e w' => e = .returned (.bool true) ∧ Below w.heap.size w w' := by
  by_cases hil : i < len
  · obtain ⟨s1, s2, s3, s4⟩ := sk_spec f len _ i rfl
    have s2' := s2 (by omega)
    have s5 := sk_again f len i
    by_cases hjl : j < len
    · by_cases hij : i < j
      · by_cases hr : sk f j i < j
        · have e := sk_cut_lt hij hj hr
          rw [e] at s1 s2' s3 s4 s5
          exact skip_T1 b off len cap f i j (sk f j i) w hl hjl hij hr rfl hil e s1 s2' s3 s4 s5 hcell
        · have e := sk_cut_eq hij hj hr
          have hjj : sk f j i = j := by have := (sk_spec f j _ i rfl).2.1 (by omega); omega
          exact skip_T2 b off len cap f i j (sk f len i) _ w hl hjl hij hjj rfl (by omega) (by omega) hil rfl s1 s2' s3 s4 s5 hcell
      · have e := sk_cut_ge (f := f) (n := len) (show j ≤ i by omega) hj
        exact skip_T3 b off len cap f i j (sk f len i) _ w hl hjl (by omega) rfl (by omega) (by omega) hil rfl s1 s2' s3 s4 s5 hcell
    · obtain rfl : j = len := by omega
      exact skip_T4 b off j cap f i (sk f j i) w hl hil rfl s1 s2' s3 s4 s5 hcell
  · exact skip_TA b off len cap f i j w hl hj hi (by omega) hcell

end Go.Proofs.Qxb6619614a
