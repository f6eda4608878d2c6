/-
  The plain law of hexDigit: its counts over the 128 ASCII runes, and the two cases of a letter.
-/
import Derived.Test.Qxb6619614aHexWalks
namespace Go.Proofs.Qxb6619614a
open Go.RowKit

theorem hx_digit {c : Int} (h1 : 48 ≤ c) (h2 : c ≤ 57) : hxB c = true ∧ hxV c = c - 48 ∧ ltr c = false := by
  refine ⟨?_, ?_, ?_⟩
  · unfold hxB; simp; omega
  · unfold hxV; rw [if_pos ⟨h1, h2⟩]
  · unfold ltr; simp; omega
theorem hx_small {c : Int} (h1 : 97 ≤ c) (h2 : c ≤ 102) : hxB c = true ∧ hxV c = c - 87 ∧ ltr c = true := by
  refine ⟨?_, ?_, ?_⟩
  · unfold hxB; simp; omega
  · unfold hxV; rw [if_neg (by omega), if_pos ⟨h1, h2⟩]
  · unfold ltr; simp; omega
theorem hx_great {c : Int} (h1 : 65 ≤ c) (h2 : c ≤ 70) : hxB c = true ∧ hxV c = c - 55 ∧ ltr c = true := by
  refine ⟨?_, ?_, ?_⟩
  · unfold hxB; simp; omega
  · unfold hxV; rw [if_neg (by omega), if_neg (by omega), if_pos ⟨h1, h2⟩]
  · unfold ltr; simp; omega
theorem hx_no {c : Int} (h : ¬ ((48 ≤ c ∧ c ≤ 57) ∨ (97 ≤ c ∧ c ≤ 102) ∨ (65 ≤ c ∧ c ≤ 70))) : hxB c = false ∧ hxV c = 0 := by
  refine ⟨?_, ?_⟩
  · unfold hxB; simp; omega
  · unfold hxV; rw [if_neg (by omega), if_neg (by omega), if_neg (by omega)]
theorem hxB_iff {c : Int} : hxB c = true ↔ ((48 ≤ c ∧ c ≤ 57) ∨ (97 ≤ c ∧ c ≤ 102) ∨ (65 ≤ c ∧ c ≤ 70)) := by unfold hxB; simp
theorem ltr_iff {c : Int} : ltr c = true ↔ ((97 ≤ c ∧ c ≤ 122) ∨ (65 ≤ c ∧ c ≤ 90)) := by unfold ltr; simp

theorem hx_fold_all : ∀ n : Fin 128, ltr (n.val : Int) = true → hxV (bits BinOp.xor IntKind.i32 (n.val : Int) 32) = hxV (n.val : Int) ∧ hxB (bits BinOp.xor IntKind.i32 (n.val : Int) 32) = hxB (n.val : Int) ∧ 0 ≤ bits BinOp.xor IntKind.i32 (n.val : Int) 32 ∧ bits BinOp.xor IntKind.i32 (n.val : Int) 32 ≤ 127 := by decide +kernel

theorem hx_fold {c : Int} (h : ltr c = true) : hxV (bits BinOp.xor IntKind.i32 c 32) = hxV c ∧ hxB (bits BinOp.xor IntKind.i32 c 32) = hxB c ∧ 0 ≤ bits BinOp.xor IntKind.i32 c 32 ∧ bits BinOp.xor IntKind.i32 c 32 ≤ 127 := by
  have hr := ltr_iff.1 h
  obtain ⟨n, rfl⟩ := Int.eq_ofNat_of_zero_le (show 0 ≤ c by omega)
  exact hx_fold_all ⟨n, by omega⟩ h

/-- How many of the first k runes read as the digit j. -/
def cnt : Nat → Nat → Int
  | 0, _ => 0
  | k + 1, j => cnt k j + if hxB (k : Int) = true ∧ (hxV (k : Int)).toNat = j then 1 else 0

theorem cnt_bd (k j : Nat) : 0 ≤ cnt k j ∧ cnt k j ≤ k := by
  induction k with
  | zero => simp [cnt]
  | succ k ih => unfold cnt; split <;> omega
theorem cnt_no {k : Nat} (h : hxB (k : Int) = false) (j : Nat) : cnt (k + 1) j = cnt k j := by rw [cnt]; simp [h]
theorem cnt_hit {k : Nat} (h : hxB (k : Int) = true) : cnt (k + 1) (hxV (k : Int)).toNat = cnt k (hxV (k : Int)).toNat + 1 := by rw [cnt]; simp [h]
theorem cnt_miss {k j : Nat} (h : j ≠ (hxV (k : Int)).toNat) : cnt (k + 1) j = cnt k j := by
  rw [cnt, if_neg (fun q => h q.2.symm)]; simp
theorem cnt_all : ∀ j : Fin 16, cnt 128 j.val = if 10 ≤ j.val then 2 else 1 := by decide +kernel
theorem cnt_fin {j : Nat} (h : j < 16) : cnt 128 j = if 10 ≤ j then 2 else 1 := cnt_all ⟨j, h⟩

theorem hx_bd {c : Int} (h : hxB c = true) : 0 ≤ hxV c ∧ hxV c ≤ 15 ∧ ltr c = decide (10 ≤ hxV c) := by
  rcases hxB_iff.1 h with ⟨a, b⟩ | ⟨a, b⟩ | ⟨a, b⟩
  · obtain ⟨-, h2, h3⟩ := hx_digit a b; rw [h2, h3]; simp; omega
  · obtain ⟨-, h2, h3⟩ := hx_small a b; rw [h2, h3]; simp; omega
  · obtain ⟨-, h2, h3⟩ := hx_great a b; rw [h2, h3]; simp; omega

end Go.Proofs.Qxb6619614a
