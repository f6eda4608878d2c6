/-
  The law on skipSpace at an empty slice that is not nil.
-/
import Derived.Test.Qxb6619614aSkipLaw
namespace Go.Proofs.Qxb6619614a
open Go.RowKit
/-- A slice that is not nil and has no element: nothing is known of its address. -/
theorem copy_empty (w : World) (x : Addr) (cap : Nat) (ty : TypeId) :
    (Builtin.copy_ #[26, 26] ty #[.slice (some ⟨w.heap.size, 0, none⟩) 0 0, .slice (some x) 0 cap]).run Try.prog (w.alloc (.cells (madeCells #[.int .u8 0] 0) 5)) = .ok (.int .i64 0) (w.alloc (.cells (madeCells #[.int .u8 0] 0) 5)) :=
  run_copy_none _ 26 26 ty 5 _ _ 0 0 0 cap Try.underlying26 size5 rfl

set_option maxRecDepth 100000 in
set_option maxHeartbeats 1000000 in
theorem skip_empty (x : Addr) (cap : Nat) (i : Nat) (w : World) (hi : (i : Int) ≤ 9223372036854775807) :
    Calls Try.prog 4 #[.slice (some x) 0 cap, .int .i64 i, .int .i64 0] w fun e w' => e = .returned (.bool true) ∧ Below w.heap.size w w' := by
  have hcp := copy_empty w x cap
  have kn := fun (w : World) => run_neq_slice_nil_any (P := Try.prog) w 26 5 (some x) 0 cap 0 0 Try.underlying26
  have hmk : ∀ w, (Instr.makeSlice 26 (.int .i64 0) (.int .i64 0)).run Try.prog w = .ok (.slice (some ⟨w.heap.size, 0, none⟩) 0 0) (w.alloc (.cells (madeCells #[.int .u8 0] 0) 5)) := run_make_row' (P := Try.prog) 26 5 (.int .u8 0) 1 Try.underlying26 info5 rfl .i64 .i64 0 (by omega) (by omega)
  have d2 : decide ((i : Int) < 0) = false := by simp
  go_enter Try.func4, Try.ntmps4
  go_wp2_with fail
  refine (zzBytesS_small _ 0 _ _ _ _ (by omega)).mono ?_
  rintro e w' ⟨rfl, rfl⟩
  go_wp2_with fail
  refine (zskip_past _ 0 0 i _ (by omega)).mono ?_
  rintro e w' ⟨rfl, rfl⟩
  go_wp2_with fail
  refine (zskip_past _ 0 0 _ _ (by omega)).mono ?_
  rintro e w' ⟨rfl, rfl⟩
  go_wp2_with fail
  refine (zskip_past _ 0 0 _ _ (by omega)).mono ?_
  rintro e w' ⟨rfl, rfl⟩
  go_wp2_with fail
  go_ret
  exact ⟨rfl, (Below.refl _ _).alloc (Nat.le_refl _) _⟩
end Go.Proofs.Qxb6619614a
