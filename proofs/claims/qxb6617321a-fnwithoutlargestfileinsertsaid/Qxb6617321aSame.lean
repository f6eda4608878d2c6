/-
  The walk of zzSame at two slices of the same groups.
-/
import Derived.Test.Qxb6617321aShown
namespace Go.Proofs.Qxb6617321a
open Go.RowKit

/-- w' is w, some draws on. -/
def Draws (w w' : World) : Prop := ∃ m, w' = w.drewN m
theorem Draws.refl (w : World) : Draws w w := ⟨0, rfl⟩
theorem Draws.drewN {w w' : World} (h : Draws w w') (n : Nat) : Draws w (w'.drewN n) := by
  obtain ⟨m, rfl⟩ := h
  exact ⟨m + n, by rw [World.drewN_drewN]⟩
theorem Draws.below {w w' : World} (h : Draws w w') : Below w.heap.size w w' := by
  obtain ⟨m, rfl⟩ := h
  exact drewN_below w m

set_option maxHeartbeats 1000000 in
theorem same_any (b n c b' c' : Nat) (f : Nat → Value) (L : Nat → List Row) (w : World) (hn : (n : Int) ≤ 4194304) (hC : Cells w b n f) (hD : Cells w b' n f) (hG : ∀ j, j < n → Grp w (f j) (L j)) (hL : ∀ j, j < n → ((L j).length : Int) ≤ 1048576) :
    Calls Try.prog 12 #[.slice (some ⟨b, 0, none⟩) n c, .slice (some ⟨b', 0, none⟩) n c'] w fun e w' => e = .returned (.bool true) ∧ Draws w w' := by
  have HC := hideN hC
  have HD := hideN hD
  have HG := hideN hG
  have HL := hideN hL
  clear hC hD hG hL
  go_enter Try.func12, Try.ntmps12
  go_wp2
  go_loopw [13] (fun v w1 => ∃ (k : Nat), k ≤ n ∧ v = .int .i64 k ∧ Hid (Draws w w1)) (fun v _ => n - (intOf v).toNat)
  case atStart => exact ⟨0, by omega, rfl, Draws.refl w⟩
  case round =>
    obtain ⟨k, hk, rfl, HW⟩ := hrel
    by_cases hlt : k < n
    · have c0 := keep_cell HW.out.below (HC.out k hlt)
      have c1 := keep_cell HW.out.below (HD.out k hlt)
      have hG1 := (HG.out k hlt).below HW.out.below
      have hl1 := HL.out k hlt
      generalize f k = u at c0 c1 hG1
      obtain ⟨ua, uc, hu⟩ := hG1.shape
      have HG1 := hideN hG1
      have hki : (k : Int) < (n : Int) := by omega
      clear hG1 hu
      go_wp2_with fail
      go_quiet ((go_at_call 19; exact Calls.quiet_of (sameG_any (HG1.out.below (drewN_below _ _)) hl1)))
      go_wp2_with fail
      go_roundw
      case rel => exact ⟨k + 1, by omega, by go_num, HW.out.drewN _⟩
      case measure => simp [intOf]; omega
    · go_wp2_with fail
      go_ret
      exact ⟨rfl, HW.out⟩

end Go.Proofs.Qxb6617321a
