/-
  The plain function of skipSpace, over bytes given by a function of the place; no Go in sight.
-/
namespace Go.Proofs.Qxb6619614a

/-- Is it JSON white space? -/
def spB (x : Int) : Bool := decide (x = 32 ∨ x = 9 ∨ x = 10 ∨ x = 13)

def skF (f : Nat → Int) (n : Nat) : Nat → Nat → Nat
  | 0, i => i
  | fuel + 1, i => if i < n ∧ spB (f i) = true then skF f n fuel (i + 1) else i
/-- The first place from i on, among the first n bytes, that is no white space. -/
def sk (f : Nat → Int) (n i : Nat) : Nat := skF f n (n - i) i

theorem sk_end {f : Nat → Int} {n i : Nat} (h : n ≤ i) : sk f n i = i := by
  unfold sk; rw [show n - i = 0 by omega]; rfl
theorem sk_stop {f : Nat → Int} {n i : Nat} (h : spB (f i) = false) : sk f n i = i := by
  unfold sk
  cases hk : n - i with
  | zero => rfl
  | succ m => unfold skF; rw [if_neg (by simp [h])]
theorem sk_step {f : Nat → Int} {n i : Nat} (h : i < n) (hs : spB (f i) = true) : sk f n i = sk f n (i + 1) := by
  unfold sk
  cases hk : n - i with
  | zero => omega
  | succ m => rw [show n - (i + 1) = m by omega, skF, if_pos ⟨h, hs⟩]

/-- What the answer is: no place is passed that is no white space, and it stops at the first. -/
theorem sk_spec (f : Nat → Int) (n : Nat) : ∀ m i, n - i = m → i ≤ sk f n i ∧ (i ≤ n → sk f n i ≤ n) ∧ (∀ k, i ≤ k → k < sk f n i → spB (f k) = true) ∧ (sk f n i < n → spB (f (sk f n i)) = false)
  | 0, i, h => by
    have e : sk f n i = i := sk_end (by omega)
    rw [e]
    exact ⟨by omega, fun q => q, fun k a b => by omega, fun q => by omega⟩
  | m + 1, i, h => by
    by_cases hs : spB (f i) = true
    · rw [sk_step (by omega) hs]
      obtain ⟨a, b, c, d⟩ := sk_spec f n m (i + 1) (by omega)
      refine ⟨by omega, fun q => b (by omega), fun k hk hk2 => ?_, d⟩
      by_cases e : k = i
      · rw [e]; exact hs
      · exact c k (by omega) hk2
    · have hs' : spB (f i) = false := by simpa using hs
      rw [sk_stop hs']
      exact ⟨by omega, fun q => q, fun k a b => by omega, fun _ => hs'⟩

/-- The answer is the only such place. -/
theorem sk_only {f : Nat → Int} {n i r : Nat} (h1 : i ≤ r) (h2 : r ≤ n) (h3 : ∀ k, i ≤ k → k < r → spB (f k) = true) (h4 : r < n → spB (f r) = false) : sk f n i = r := by
  obtain ⟨a, b, c, d⟩ := sk_spec f n _ i rfl
  have b' := b (by omega)
  rcases Nat.lt_trichotomy (sk f n i) r with h | h | h
  · have e1 := h3 _ a h
    have e2 := d (by omega)
    rw [e1] at e2; cases e2
  · exact h
  · have e1 := c r h1 h
    have e2 := h4 (by omega)
    rw [e1] at e2; cases e2

theorem sk_again (f : Nat → Int) (n i : Nat) : sk f n (sk f n i) = sk f n i := by
  obtain ⟨a, b, c, d⟩ := sk_spec f n _ i rfl
  by_cases h : sk f n i < n
  · exact sk_stop (d h)
  · exact sk_end (by omega)

/-- Cut behind the start: the two pieces. -/
theorem sk_cut_lt {f : Nat → Int} {n i j : Nat} (_h1 : i < j) (h2 : j ≤ n) (h3 : sk f j i < j) : sk f n i = sk f j i := by
  obtain ⟨a, b, c, d⟩ := sk_spec f j _ i rfl
  exact sk_only a (by omega) c (fun _ => d h3)
theorem sk_cut_eq {f : Nat → Int} {n i j : Nat} (h1 : i < j) (h2 : j ≤ n) (h3 : ¬ sk f j i < j) : sk f n i = j + sk (fun k => f (j + k)) (n - j) 0 := by
  obtain ⟨a, b, c, d⟩ := sk_spec f j _ i rfl
  have e : sk f j i = j := by have := b (by omega); omega
  rw [e] at c
  obtain ⟨a', b', c', d'⟩ := sk_spec (fun k => f (j + k)) (n - j) _ 0 rfl
  have b'' := b' (by omega)
  refine sk_only (by omega) (by omega) (fun k k1 k2 => ?_) (fun q => ?_)
  · by_cases hk : k < j
    · exact c k k1 hk
    · have := c' (k - j) (by omega) (by omega)
      simpa [show j + (k - j) = k by omega] using this
  · exact d' (by omega)
theorem sk_cut_ge {f : Nat → Int} {n i j : Nat} (h1 : j ≤ i) (h2 : j ≤ n) : sk f n i = j + sk (fun k => f (j + k)) (n - j) (i - j) := by
  by_cases hi : i < n
  · obtain ⟨a', b', c', d'⟩ := sk_spec (fun k => f (j + k)) (n - j) _ (i - j) rfl
    have b'' := b' (by omega)
    refine sk_only (by omega) (by omega) (fun k k1 k2 => ?_) (fun q => ?_)
    · have := c' (k - j) (by omega) (by omega)
      simpa [show j + (k - j) = k by omega] using this
    · exact d' (by omega)
  · rw [sk_end (by omega), sk_end (by omega)]; omega

end Go.Proofs.Qxb6619614a
