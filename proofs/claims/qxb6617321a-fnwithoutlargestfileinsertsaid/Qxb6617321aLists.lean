/-
  The walks of zzClone, zzJoin, zzInsert: a fresh row of groups.
-/
import Derived.Test.Qxb6617321aBuild
namespace Go.Proofs.Qxb6617321a
open Go.RowKit

/-- The call's one new block is a row of n groups, the j-th is f j. -/
structure Fill (w wr : World) (n : Nat) (f : Nat → Value) : Prop where
  row : wr.rowIs w.heap.size 32 n f
  below : Below w.heap.size w wr
  size : wr.heap.size = w.heap.size + 1

theorem Fill.start (w : World) (n : Nat) : Fill w (w.alloc (.cells (madeCells #[.slice none 0 0] n) 32)) n (fun _ => nilV) :=
  ⟨World.rowIs_made _ _ _ _, (Below.refl _ _).alloc (Nat.le_refl _) _, by simp⟩
theorem Fill.set {w wr : World} {n : Nat} {f g : Nat → Value} (h : Fill w wr n f) (k : Nat) (v : Value) (hg : ∀ j, j < n → g j = if j = k then v else f j) : Fill w (wr.setCell ⟨w.heap.size, k, none⟩ v) n g :=
  ⟨(h.row.set k v).congr (fun i hi => (hg i hi).symm), h.below.setCell (Nat.le_refl _) _, by rw [Deep.nblk_setCell]; exact h.size⟩
theorem Fill.congr {w wr : World} {n : Nat} {f g : Nat → Value} (h : Fill w wr n f) (hg : ∀ j, j < n → f j = g j) : Fill w wr n g := ⟨h.row.congr hg, h.below, h.size⟩

/-- Every value is a slice. -/
def IsSl (f : Nat → Value) : Prop := ∀ j, ∃ a n c, f j = .slice a n c
/-- The n cells from the head of block b on. -/
def Cells (w : World) (b n : Nat) (f : Nat → Value) : Prop := ∀ j, j < n → w.cell? ⟨b, j, none⟩ = some (f j)
theorem Cells.below {w w' : World} {b n : Nat} {f : Nat → Value} (h : Cells w b n f) (hb : Below w.heap.size w w') : Cells w' b n f := fun j hj => keep_cell hb (h j hj)

set_option maxHeartbeats 1000000 in
theorem clone_any (b n c : Nat) (f : Nat → Value) (w : World) (hn : (n : Int) ≤ 4194304) (hf : IsSl f) (hC : Cells w b n f) :
    Calls Try.prog 10 #[.slice (some ⟨b, 0, none⟩) n c] w fun e w' => e = .returned (.slice (some ⟨w.heap.size, 0, none⟩) n n) ∧ Fill w w' n f := by
  have HC := hideN hC
  have HF := hideN hf
  clear hC hf
  have hmk := run_make_row' (P := Try.prog) 25 32 (.slice none 0 0) 24 Try.underlying25 info32 rfl .i64 .i64 n (by omega) (by omega)
  go_enter Try.func10, Try.ntmps10
  go_wp2
  go_loopw [10] (fun v wr => ∃ k : Nat, k ≤ n ∧ v = .int .i64 k ∧ Fill w wr n (fun j => if j < k then f j else nilV)) (fun v _ => n - (intOf v).toNat)
  case atStart => exact ⟨0, by omega, rfl, (Fill.start w n).congr (fun j hj => by simp)⟩
  case round =>
    obtain ⟨k, hk, rfl, hB⟩ := hrel
    have HB := hideN hB
    by_cases hlt : k < n
    · have c0 := keep_cell hB.below (HC.out k hlt)
      have c1 := hB.row.cell hlt
      rw [if_neg (by omega)] at c1
      unfold nilV at c1
      have f1 := hB.row.frozen k
      have HS : Hid (Fill w (wr.setCell ⟨w.heap.size, k, none⟩ (f k)) n (fun j => if j < k + 1 then f j else nilV)) := hB.set k (f k) (fun j hj => by
        by_cases e : j = k
        · subst e; simp
        · simp only [e, if_false]
          by_cases e2 : j < k
          · rw [if_pos e2, if_pos (by omega)]
          · rw [if_neg e2, if_neg (by omega)])
      obtain ⟨ua, um, uc, hu⟩ := HF.out k
      rw [hu] at c0 HS
      have hkn : (k : Int) < (n : Int) := by omega
      clear hB hu
      go_wp2_with fail
      go_roundw
      case rel => exact ⟨k + 1, by omega, by go_num, HS.out⟩
      case measure => simp [intOf]; omega
    · obtain rfl : k = n := by omega
      clear hB
      go_wp2_with fail
      go_ret
      exact ⟨rfl, HB.out.congr (fun j hj => by rw [if_pos hj])⟩

set_option maxHeartbeats 2000000 in
theorem join_any (b n c b' m c' : Nat) (f g : Nat → Value) (w : World) (hn : (n : Int) ≤ 1048576) (hm : (m : Int) ≤ 1048576) (hf : IsSl f) (hg : IsSl g) (hC : Cells w b n f) (hD : Cells w b' m g) :
    Calls Try.prog 8 #[.slice (some ⟨b, 0, none⟩) n c, .slice (some ⟨b', 0, none⟩) m c'] w fun e w' => e = .returned (.slice (some ⟨w.heap.size, 0, none⟩) (n + m) (n + m)) ∧ Fill w w' (n + m) (fun j => if j < n then f j else g (j - n)) := by
  have HC := hideN hC
  have HF := hideN hf
  have HD := hideN hD
  have HG := hideN hg
  clear hC hf hD hg
  have hmk := run_make_row' (P := Try.prog) 25 32 (.slice none 0 0) 24 Try.underlying25 info32 rfl .i64 .i64 (n + m) (by omega) (by omega)
  have ec : ((n + m : Nat) : Int) = (n : Int) + (m : Int) := by omega
  rw [ec] at hmk
  clear ec
  go_enter Try.func8, Try.ntmps8
  go_wp2
  go_loopw [16] (fun v wr => ∃ k : Nat, k ≤ n ∧ v = .int .i64 k ∧ Fill w wr (n + m) (fun j => if j < k then f j else nilV)) (fun v _ => n - (intOf v).toNat)
  case atStart => exact ⟨0, by omega, rfl, (Fill.start w (n + m)).congr (fun j hj => by simp)⟩
  case round =>
    obtain ⟨k, hk, rfl, hB⟩ := hrel
    have HB := hideN hB
    by_cases hlt : k < n
    · have c0 := keep_cell hB.below (HC.out k hlt)
      have c1 := hB.row.cell (show k < n + m by omega)
      rw [if_neg (by omega)] at c1
      unfold nilV at c1
      have f1 := hB.row.frozen k
      have HS : Hid (Fill w (wr.setCell ⟨w.heap.size, k, none⟩ (f k)) (n + m) (fun j => if j < k + 1 then f j else nilV)) := hB.set k (f k) (fun j hj => by
        by_cases e : j = k
        · subst e; simp
        · simp only [e, if_false]
          by_cases e2 : j < k
          · rw [if_pos e2, if_pos (by omega)]
          · rw [if_neg e2, if_neg (by omega)])
      obtain ⟨ua, um, uc, hu⟩ := HF.out k
      rw [hu] at c0 HS
      have hkn : (k : Int) < (n : Int) := by omega
      have hkn2 : (k : Int) < ((n + m : Nat) : Int) := by omega
      clear hB hu
      go_wp2_with fail
      go_roundw
      case rel => exact ⟨k + 1, by omega, by go_num, HS.out⟩
      case measure => simp [intOf]; omega
    · obtain rfl : k = n := by omega
      clear hB hk
      go_wp2_with fail
      clear hlt
      go_loopw [29] (fun v wr => ∃ i : Nat, i ≤ m ∧ v = .int .i64 i ∧ Fill w wr (k + m) (fun j => if j < k then f j else if j < k + i then g (j - k) else nilV)) (fun v _ => m - (intOf v).toNat)
      case atStart => exact ⟨0, by omega, rfl, HB.out.congr (fun j hj => by by_cases e : j < k; simp [e]; simp [e])⟩
      case round =>
        clear HB
        obtain ⟨i, hi, rfl, hB⟩ := hrel
        have HB := hideN hB
        by_cases hlt : i < m
        · have c0 := keep_cell hB.below (HD.out i hlt)
          have c1 := hB.row.cell (show k + i < k + m by omega)
          rw [if_neg (by omega), if_neg (by omega)] at c1
          unfold nilV at c1
          have f1 := hB.row.frozen (k + i)
          have HS : Hid (Fill w (wr.setCell ⟨w.heap.size, k + i, none⟩ (g i)) (k + m) (fun j => if j < k then f j else if j < k + (i + 1) then g (j - k) else nilV)) := hB.set (k + i) (g i) (fun j hj => by
            by_cases e : j = k + i
            · subst e
              rw [if_neg (by omega), if_pos (by omega), if_pos rfl, show k + i - k = i by omega]
            · rw [if_neg e]
              by_cases e2 : j < k
              · rw [if_pos e2, if_pos e2]
              · rw [if_neg e2, if_neg e2]
                by_cases e3 : j < k + i
                · rw [if_pos e3, if_pos (by omega)]
                · rw [if_neg e3, if_neg (by omega)])
          obtain ⟨ua, um, uc, hu⟩ := HG.out i
          rw [hu] at c0 HS
          have hin : (i : Int) < (m : Int) := by omega
          have hin2 : (k : Int) + (i : Int) < ((k + m : Nat) : Int) := by omega
          have hin3 : ((k : Int) + (i : Int)).toNat = k + i := by omega
          clear hB hu
          go_wp2_with fail
          go_roundw
          case rel => exact ⟨i + 1, by omega, by go_num, HS.out⟩
          case measure => simp [intOf]; omega
        · obtain rfl : i = m := by omega
          clear hB
          go_wp2_with fail
          go_ret
          exact ⟨rfl, HB.out.congr (fun j hj => by by_cases e : j < k; simp [e]; simp [e, hj])⟩

end Go.Proofs.Qxb6617321a
