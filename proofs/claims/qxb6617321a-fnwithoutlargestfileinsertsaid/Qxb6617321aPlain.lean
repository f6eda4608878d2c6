/-
  The plain side of the laws on withoutLargestFile: the score of a group, the greatest score of a list, the place of the group that is dropped.
-/
import Derived.Test.Qxb6617321aRows
import Derived.WalkKit
namespace Go.Proofs.Qxb6617321a
open Go.RowKit

/-- What is read of a file: its two counts and its treatment. -/
structure Row where
  a : Int
  d : Int
  t : ByteArray
def noRow : Row := ⟨0, 0, ByteArray.empty⟩
def rowAt (l : List Row) (k : Nat) : Row := l.getD k noRow

def isSt (t : ByteArray) : Bool := t.toList == [115, 116, 97, 116, 115]
def sc1 (n : Int) (r : Row) : Int := if isSt r.t = true then n else if n < wrap64 (r.a + r.d) then wrap64 (r.a + r.d) else n
def scTo (l : List Row) : Nat → Int
  | 0 => 0
  | k + 1 => sc1 (scTo l k) (rowAt l k)
/-- The group's largest shown change. -/
def score (l : List Row) : Int := scTo l l.length

theorem sc1_ge {n : Int} (h : 0 ≤ n) (r : Row) : 0 ≤ sc1 n r := by unfold sc1; split <;> first | omega | (split <;> omega)
theorem scTo_ge (l : List Row) : ∀ k, 0 ≤ scTo l k
  | 0 => Int.le_refl _
  | k + 1 => sc1_ge (scTo_ge l k) _
theorem score_ge (l : List Row) : 0 ≤ score l := scTo_ge l _

/-- The greatest of f lo, f (lo + 1), .., k of them; -1 where there is none. -/
def mxTo (f : Nat → Int) (lo : Nat) : Nat → Int
  | 0 => -1
  | k + 1 => if mxTo f lo k < f (lo + k) then f (lo + k) else mxTo f lo k

/-- The last place of the greatest among the first k, and that value; -1 and -1 where there is none. -/
def kpTo (f : Nat → Int) : Nat → Int × Int
  | 0 => (-1, -1)
  | k + 1 => if (kpTo f k).2 ≤ f k then ((k : Int), f k) else kpTo f k

/-- i is the last place of the greatest among the first n. -/
def LastMax (f : Nat → Int) (n i : Nat) : Prop := i < n ∧ (∀ j, j < n → f j ≤ f i) ∧ ∀ j, i < j → j < n → f j < f i

theorem lastMax_unique {f : Nat → Int} {n i j : Nat} (h : LastMax f n i) (k : LastMax f n j) : i = j := by
  rcases Nat.lt_trichotomy i j with q | q | q
  · have := h.2.2 j q k.1; have := k.2.1 i h.1; omega
  · exact q
  · have := k.2.2 i q h.1; have := h.2.1 j k.1; omega

theorem kpTo_spec (f : Nat → Int) (h0 : ∀ k, 0 ≤ f k) : ∀ n, 0 < n → ∃ i : Nat, kpTo f n = ((i : Int), f i) ∧ LastMax f n i
  | 1, _ => ⟨0, by have := h0 0; rw [kpTo]; exact if_pos (show (-1 : Int) ≤ f 0 by omega), by omega, fun j hj => by rw [show j = 0 by omega]; omega, fun j a b => by omega⟩
  | n + 2, _ => by
    obtain ⟨i, e, h1, h2, h3⟩ := kpTo_spec f h0 (n + 1) (by omega)
    rw [kpTo, e]
    by_cases q : f i ≤ f (n + 1)
    · rw [if_pos q]
      refine ⟨n + 1, rfl, by omega, fun j hj => ?_, fun j a b => by omega⟩
      by_cases e2 : j = n + 1
      · rw [e2]; omega
      · have := h2 j (by omega); omega
    · rw [if_neg q]
      refine ⟨i, rfl, by omega, fun j hj => ?_, fun j a b => ?_⟩
      · by_cases e2 : j = n + 1
        · rw [e2]; omega
        · exact h2 j (by omega)
      · by_cases e2 : j = n + 1
        · rw [e2]; omega
        · exact h3 j a (by omega)

theorem mxTo_ge (f : Nat → Int) (lo : Nat) : ∀ k j, j < k → f (lo + j) ≤ mxTo f lo k
  | k + 1, j, h => by
    have := mxTo_ge f lo k j
    rw [mxTo]
    by_cases e : j = k
    · subst e; split <;> omega
    · have := this (by omega); split <;> omega
theorem mxTo_lo (f : Nat → Int) (lo : Nat) : ∀ k, -1 ≤ mxTo f lo k
  | 0 => Int.le_refl _
  | k + 1 => by have := mxTo_lo f lo k; rw [mxTo]; split <;> omega
theorem mxTo_eq (f : Nat → Int) (lo : Nat) : ∀ k, mxTo f lo k = -1 ∨ ∃ j, j < k ∧ mxTo f lo k = f (lo + j)
  | 0 => .inl rfl
  | k + 1 => by
    rw [mxTo]
    split
    · exact .inr ⟨k, by omega, rfl⟩
    · rcases mxTo_eq f lo k with e | ⟨j, hj, e⟩
      · exact .inl e
      · exact .inr ⟨j, by omega, e⟩
/-- .. and where there is one, it is one of them. -/
theorem mxTo_at (f : Nat → Int) (h0 : ∀ k, 0 ≤ f k) (lo : Nat) {k : Nat} (hk : 0 < k) : ∃ j, j < k ∧ mxTo f lo k = f (lo + j) := by
  rcases mxTo_eq f lo k with e | h
  · have := mxTo_ge f lo k 0 hk; have := h0 (lo + 0); omega
  · exact h

/-- A list's values behind one another. -/
def cat (f g : Nat → Int) (n : Nat) (i : Nat) : Int := if i < n then f i else g (i - n)

theorem cat_right {f g : Nat → Int} (h0 : ∀ k, 0 ≤ g k) {n m i : Nat} (hi : LastMax g m i) (h : mxTo f 0 n ≤ mxTo g 0 m) : LastMax (cat f g n) (n + m) (n + i) := by
  have e : cat f g n (n + i) = g i := by unfold cat; rw [if_neg (by omega), show n + i - n = i by omega]
  obtain ⟨h1, h2, h3⟩ := hi
  have hm : mxTo g 0 m ≤ g i := by
    rcases mxTo_eq g 0 m with q | ⟨j, hj, q⟩
    · have := h0 i; omega
    · have := h2 j hj; rw [q, Nat.zero_add]; exact this
  refine ⟨by omega, fun j hj => ?_, fun j a b => ?_⟩
  · rw [e]
    unfold cat
    split
    · have := mxTo_ge f 0 n j (by omega); rw [Nat.zero_add] at this; omega
    · exact h2 _ (by omega)
  · rw [e]
    unfold cat
    rw [if_neg (by omega)]
    exact h3 _ (by omega) (by omega)
theorem cat_left {f g : Nat → Int} (h0 : ∀ k, 0 ≤ f k) {n m i : Nat} (hi : LastMax f n i) (h : m = 0 ∨ mxTo g 0 m < mxTo f 0 n) : LastMax (cat f g n) (n + m) i := by
  obtain ⟨h1, h2, h3⟩ := hi
  have e : cat f g n i = f i := by unfold cat; rw [if_pos h1]
  have hm : mxTo f 0 n ≤ f i := by
    rcases mxTo_eq f 0 n with q | ⟨j, hj, q⟩
    · have := h0 i; omega
    · have := h2 j hj; rw [q, Nat.zero_add]; exact this
  have hg : ∀ j, j < m → g j < f i := fun j hj => by
    have := mxTo_ge g 0 m j hj; rw [Nat.zero_add] at this; omega
  refine ⟨by omega, fun j hj => ?_, fun j a b => ?_⟩
  · rw [e]; unfold cat
    split
    · exact h2 j (by omega)
    · have := hg (j - n) (by omega); omega
  · rw [e]; unfold cat
    split
    · exact h3 j a (by omega)
    · exact hg (j - n) (by omega)

/-- A value put in at p. -/
def put (f : Nat → Int) (p : Nat) (s : Int) (i : Nat) : Int := if i < p then f i else if i = p then s else f (i - 1)

theorem put_at {f : Nat → Int} {n p : Nat} {s : Int} (hp : p ≤ n) (h1 : mxTo f 0 p ≤ s) (h2 : mxTo f p (n - p) < s) : LastMax (put f p s) (n + 1) p := by
  have e : put f p s p = s := by unfold put; rw [if_neg (by omega), if_pos rfl]
  refine ⟨by omega, fun j hj => ?_, fun j a b => ?_⟩
  · rw [e]; unfold put
    split
    · have := mxTo_ge f 0 p j (by omega); rw [Nat.zero_add] at this; omega
    · split
      · omega
      · have := mxTo_ge f p (n - p) (j - 1 - p) (by omega); rw [show p + (j - 1 - p) = j - 1 by omega] at this; omega
  · rw [e]; unfold put
    rw [if_neg (by omega), if_neg (by omega)]
    have := mxTo_ge f p (n - p) (j - 1 - p) (by omega); rw [show p + (j - 1 - p) = j - 1 by omega] at this; omega
/-- The greatest lay ahead of p. -/
theorem put_before {f : Nat → Int} (h0 : ∀ k, 0 ≤ f k) {n p i : Nat} {s : Int} (hp : p ≤ n) (hi : LastMax f n i) (h : mxTo f p (n - p) < mxTo f 0 p) (hs : s < mxTo f 0 p) : i < p ∧ LastMax (put f p s) (n + 1) i := by
  obtain ⟨h1, h2, h3⟩ := hi
  have hlt : i < p := by
    by_cases q : i < p
    · exact q
    · have a := mxTo_ge f p (n - p) (i - p) (by omega)
      rw [show p + (i - p) = i by omega] at a
      rcases mxTo_eq f 0 p with e | ⟨j, hj, e⟩
      · have := mxTo_lo f p (n - p); omega
      · have := h2 j (by omega); rw [Nat.zero_add] at e; omega
  have e : put f p s i = f i := by unfold put; rw [if_pos hlt]
  have hm : mxTo f 0 p ≤ f i := by
    rcases mxTo_eq f 0 p with q | ⟨j, hj, q⟩
    · have := h0 i; omega
    · have := h2 j (by omega); rw [q, Nat.zero_add]; exact this
  refine ⟨hlt, by omega, fun j hj => ?_, fun j a b => ?_⟩
  · rw [e]; unfold put
    split
    · exact h2 j (by omega)
    · split
      · omega
      · exact h2 (j - 1) (by omega)
  · rw [e]; unfold put
    split
    · exact h3 j a (by omega)
    · split
      · omega
      · have := mxTo_ge f p (n - p) (j - 1 - p) (by omega); rw [show p + (j - 1 - p) = j - 1 by omega] at this; omega
/-- The greatest lies from p on. -/
theorem put_behind {f : Nat → Int} {n p i : Nat} {s : Int} (hi : LastMax f n i) (h : mxTo f 0 p ≤ mxTo f p (n - p)) (hs : s ≤ mxTo f p (n - p)) (h0 : ∀ k, 0 ≤ f k) (hpn : p < n) : p ≤ i ∧ LastMax (put f p s) (n + 1) (i + 1) := by
  obtain ⟨h1, h2, h3⟩ := hi
  obtain ⟨j0, hj0, e0⟩ := mxTo_at f h0 p (k := n - p) (by omega)
  have hle : p ≤ i := by
    by_cases q : p ≤ i
    · exact q
    · have a := mxTo_ge f 0 p i (by omega)
      rw [Nat.zero_add] at a
      have := h3 (p + j0) (by omega) (by omega)
      omega
  have e : put f p s (i + 1) = f i := by unfold put; rw [if_neg (by omega), if_neg (by omega)]; rfl
  have hm : mxTo f p (n - p) ≤ f i := by rw [e0]; exact h2 _ (by omega)
  refine ⟨hle, by omega, fun j hj => ?_, fun j a b => ?_⟩
  · rw [e]; unfold put
    split
    · exact h2 j (by omega)
    · split
      · omega
      · exact h2 (j - 1) (by omega)
  · rw [e]; unfold put
    rw [if_neg (by omega), if_neg (by omega)]
    exact h3 (j - 1) (by omega) (by omega)

end Go.Proofs.Qxb6617321a
