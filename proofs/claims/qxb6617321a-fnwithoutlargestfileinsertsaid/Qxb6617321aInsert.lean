/-
  The walk of zzInsert.
-/
import Derived.Test.Qxb6617321aLists
namespace Go.Proofs.Qxb6617321a
open Go.RowKit

set_option maxHeartbeats 2000000 in
theorem insert_any (b n c p : Nat) (f : Nat → Value) (ga : Option Addr) (gm gc : Nat) (w : World) (hn : (n : Int) ≤ 1048576) (hp : p ≤ n) (hf : IsSl f) (hC : Cells w b n f) :
    Calls Try.prog 16 #[.slice (some ⟨b, 0, none⟩) n c, .int .i64 p, .slice ga gm gc] w fun e w' => e = .returned (.slice (some ⟨w.heap.size, 0, none⟩) (n + 1) (n + 1)) ∧ Fill w w' (n + 1) (fun j => if j < p then f j else if j = p then .slice ga gm gc else f (j - 1)) := by
  have HC := hideN hC
  have HF := hideN hf
  clear hC hf
  have hmk := run_make_row' (P := Try.prog) 25 32 (.slice none 0 0) 24 Try.underlying25 info32 rfl .i64 .i64 (n + 1) (by omega) (by omega)
  have ec : ((n + 1 : Nat) : Int) = (n : Int) + 1 := by omega
  rw [ec] at hmk
  clear ec
  go_enter Try.func16, Try.ntmps16
  go_wp2
  go_loopw [8] (fun v wr => ∃ k : Nat, k ≤ p ∧ v = .int .i64 k ∧ Fill w wr (n + 1) (fun j => if j < k then f j else nilV)) (fun v _ => p - (intOf v).toNat)
  case atStart => exact ⟨0, by omega, rfl, (Fill.start w (n + 1)).congr (fun j hj => by simp)⟩
  case round =>
    obtain ⟨k, hk, rfl, hB⟩ := hrel
    have HB := hideN hB
    by_cases hlt : k < p
    · have c0 := keep_cell hB.below (HC.out k (by omega))
      have c1 := hB.row.cell (show k < n + 1 by omega)
      rw [if_neg (by omega)] at c1
      unfold nilV at c1
      have f1 := hB.row.frozen k
      have HS : Hid (Fill w (wr.setCell ⟨w.heap.size, k, none⟩ (f k)) (n + 1) (fun j => if j < k + 1 then f j else nilV)) := hB.set k (f k) (fun j hj => by
        by_cases e : j = k
        · subst e; simp
        · simp only [e, if_false]
          by_cases e2 : j < k
          · rw [if_pos e2, if_pos (by omega)]
          · rw [if_neg e2, if_neg (by omega)])
      obtain ⟨ua, um, uc, hu⟩ := HF.out k
      rw [hu] at c0 HS
      have hkn : (k : Int) < (n : Int) := by omega
      have hkn2 : (k : Int) < ((n + 1 : Nat) : Int) := by omega
      clear hB hu
      go_wp2_with fail
      go_roundw
      case rel => exact ⟨k + 1, by omega, by go_num, HS.out⟩
      case measure => simp [intOf]; omega
    · obtain rfl : k = p := by omega
      have c1 := hB.row.cell (show k < n + 1 by omega)
      rw [if_neg (by omega)] at c1
      unfold nilV at c1
      have f1 := hB.row.frozen k
      have hkn2 : (k : Int) < ((n + 1 : Nat) : Int) := by omega
      have HS : Hid (Fill w (wr.setCell ⟨w.heap.size, k, none⟩ (.slice ga gm gc)) (n + 1) (fun j => if j < k then f j else if j = k then .slice ga gm gc else if j - 1 < k then f (j - 1) else nilV)) := hB.set k _ (fun j hj => by
        by_cases e : j = k
        · subst e; simp
        · by_cases e2 : j < k
          · simp only [e, e2, if_true, if_false]
          · have e3 : ¬ (j - 1 < k) := by omega
            simp only [e, e2, e3, if_false])
      clear hB hk HB
      go_wp2_with fail
      clear hlt c1 f1
      go_loopw [9] (fun v wr => ∃ i : Nat, k ≤ i ∧ i ≤ n ∧ v = .int .i64 i ∧ Fill w wr (n + 1) (fun j => if j < k then f j else if j = k then .slice ga gm gc else if j - 1 < i then f (j - 1) else nilV)) (fun v _ => n - (intOf v).toNat)
      case atStart => exact ⟨k, by omega, by omega, rfl, HS.out⟩
      case round =>
        clear HS
        obtain ⟨i, hi0, hi, rfl, hB⟩ := hrel
        have HB := hideN hB
        by_cases hlt : i < n
        · have c0 := keep_cell hB.below (HC.out i hlt)
          have c1 := hB.row.cell (show i + 1 < n + 1 by omega)
          rw [if_neg (by omega), if_neg (by omega), if_neg (by omega)] at c1
          unfold nilV at c1
          have f1 := hB.row.frozen (i + 1)
          have HS : Hid (Fill w (wr.setCell ⟨w.heap.size, i + 1, none⟩ (f i)) (n + 1) (fun j => if j < k then f j else if j = k then .slice ga gm gc else if j - 1 < i + 1 then f (j - 1) else nilV)) := hB.set (i + 1) (f i) (fun j hj => by
            by_cases e : j = i + 1
            · subst e
              rw [if_neg (by omega), if_neg (by omega), if_pos (by omega), if_pos rfl]
              rfl
            · rw [if_neg e]
              by_cases e2 : j < k
              · rw [if_pos e2, if_pos e2]
              · rw [if_neg e2, if_neg e2]
                by_cases e4 : j = k
                · rw [if_pos e4, if_pos e4]
                · rw [if_neg e4, if_neg e4]
                  by_cases e3 : j - 1 < i
                  · rw [if_pos e3, if_pos (by omega)]
                  · rw [if_neg e3, if_neg (by omega)])
          obtain ⟨ua, um, uc, hu⟩ := HF.out i
          rw [hu] at c0 HS
          have hin : (i : Int) < (n : Int) := by omega
          have hin2 : (i : Int) + 1 < ((n + 1 : Nat) : Int) := by omega
          have hin3 : ((i : Int) + 1).toNat = i + 1 := by omega
          clear hB hu
          go_wp2_with fail
          go_roundw
          case rel => exact ⟨i + 1, by omega, by omega, by go_num, HS.out⟩
          case measure => simp [intOf]; omega
        · obtain rfl : i = n := by omega
          clear hB
          go_wp2_with fail
          go_ret
          exact ⟨rfl, HB.out.congr (fun j hj => by
            by_cases e2 : j < k
            · rw [if_pos e2, if_pos e2]
            · rw [if_neg e2, if_neg e2]
              by_cases e4 : j = k
              · rw [if_pos e4, if_pos e4]
              · rw [if_neg e4, if_neg e4, if_pos (by omega)])⟩

end Go.Proofs.Qxb6617321a
