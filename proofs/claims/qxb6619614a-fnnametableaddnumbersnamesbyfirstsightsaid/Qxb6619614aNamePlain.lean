/-
  The plain side of the name table: the place of a name among the distinct names, and what the map says of it.
-/
import Derived.Test.Qxb6619614aRows
import Derived.Maps.OwnSet
namespace Go.Proofs.Qxb6619614a
open Go.Maps

/-- The place of s among ds; ds.length where it is not there. -/
def ixN (s : ByteArray) : List ByteArray → Nat
  | [] => 0
  | d :: r => if d = s then 0 else ixN s r + 1
/-- One name more. -/
def addD (ds : List ByteArray) (s : ByteArray) : List ByteArray := if ixN s ds < ds.length then ds else ds ++ [s]
/-- The distinct names among the first k, in order of first sight. -/
def ddTo (f : Nat → ByteArray) : Nat → List ByteArray
  | 0 => []
  | k + 1 => addD (ddTo f k) (f k)
/-- What indexOf gives. -/
def ixI (s : ByteArray) (ds : List ByteArray) : Int := if ixN s ds < ds.length then (ixN s ds : Int) else -1

theorem ixN_le (s : ByteArray) : ∀ ds, ixN s ds ≤ ds.length
  | [] => Nat.le_refl _
  | d :: r => by unfold ixN; split <;> simp; exact ixN_le s r
theorem ixN_append {s t : ByteArray} : ∀ {ds : List ByteArray}, ixN s ds < ds.length → ixN s (ds ++ [t]) = ixN s ds
  | [], h => by simp at h
  | d :: r, h => by
    simp only [List.cons_append, ixN] at h ⊢
    split
    · rfl
    · rename_i hd
      rw [if_neg hd] at h
      simp only [List.length_cons] at h
      rw [ixN_append (by omega)]
theorem ixN_new {s : ByteArray} : ∀ {ds : List ByteArray}, ¬ ixN s ds < ds.length → ixN s (ds ++ [s]) = ds.length
  | [], _ => by simp [ixN]
  | d :: r, h => by
    simp only [List.cons_append, ixN] at h ⊢
    by_cases hd : d = s
    · rw [if_pos hd] at h; simp at h
    · rw [if_neg hd] at h ⊢
      simp only [List.length_cons] at h ⊢
      rw [ixN_new (by omega)]
theorem ixN_other {s t : ByteArray} (hne : t ≠ s) : ∀ {ds : List ByteArray}, ¬ ixN t ds < ds.length → ¬ ixN t (ds ++ [s]) < (ds ++ [s]).length
  | [], _ => by simp [ixN, Ne.symm hne]
  | d :: r, h => by
    simp only [List.cons_append, ixN] at h ⊢
    by_cases hd : d = t
    · rw [if_pos hd] at h; simp at h
    · rw [if_neg hd] at h ⊢
      simp only [List.length_cons] at h ⊢
      have := ixN_other hne (ds := r) (by omega)
      omega
/-- The place is the first at which s stands. -/
theorem ixN_at {s : ByteArray} : ∀ {ds : List ByteArray} {k : Nat}, (∀ j, j < k → ds[j]? ≠ some s) → ds[k]? = some s → ixN s ds = k
  | [], k, _, h => by simp at h
  | d :: r, 0, _, h => by simp at h; simp [ixN, h]
  | d :: r, k + 1, h, hk => by
    have h0 : d ≠ s := by simpa using h 0 (by omega)
    rw [ixN, if_neg h0, ixN_at (k := k) (fun j hj => by simpa using h (j + 1) (by omega)) (by simpa using hk)]
theorem ixN_none {s : ByteArray} : ∀ {ds : List ByteArray}, (∀ j, j < ds.length → ds[j]? ≠ some s) → ¬ ixN s ds < ds.length
  | [], _ => by simp
  | d :: r, h => by
    have h0 : d ≠ s := by simpa using h 0 (by simp)
    rw [ixN, if_neg h0]
    have := ixN_none (ds := r) (fun j hj => by simpa using h (j + 1) (by simpa using hj))
    simp only [List.length_cons]
    omega

theorem addD_mem (ds : List ByteArray) (s : ByteArray) : ixN s (addD ds s) < (addD ds s).length := by
  unfold addD
  split
  · assumption
  · rename_i h; rw [ixN_new h]; simp
theorem addD_keep {ds : List ByteArray} {t : ByteArray} (s : ByteArray) (h : ixN t ds < ds.length) : ixN t (addD ds s) < (addD ds s).length := by
  unfold addD
  split
  · exact h
  · rw [ixN_append h]; simp; omega
theorem addD_len (ds : List ByteArray) (s : ByteArray) : (addD ds s).length ≤ ds.length + 1 := by unfold addD; split <;> simp
theorem ddTo_len (f : Nat → ByteArray) : ∀ k, (ddTo f k).length ≤ k
  | 0 => Nat.le_refl _
  | k + 1 => by have := ddTo_len f k; have := addD_len (ddTo f k) (f k); rw [ddTo]; omega
/-- Every name that was added is there. -/
theorem ddTo_mem (f : Nat → ByteArray) : ∀ k j, j < k → ixN (f j) (ddTo f k) < (ddTo f k).length
  | k + 1, j, h => by
    rw [ddTo]
    by_cases e : j = k
    · subst e; exact addD_mem _ _
    · exact addD_keep _ (ddTo_mem f k j (by omega))

/-- What the map says: a name is there just if it is among ds, and its element is its place. -/
def MapOf (D : DataW Unit) (ds : List ByteArray) : Prop :=
  IsMap D ∧ ∀ s : ByteArray, has D (.string s.data.toList) = decide (ixN s ds < ds.length) ∧ (ixN s ds < ds.length → D.atKey (.string s.data.toList) (.lit (.int .i64 0)) = .lit (.int .i64 (ixN s ds : Nat)))

theorem mapOf_empty : MapOf (.map []) [] := ⟨isMap_empty, fun s => ⟨rfl, fun h => by simp at h⟩⟩

theorem key_ne {s t : ByteArray} (h : t ≠ s) : (Lit.string t.data.toList) ≠ .string s.data.toList := by
  intro e
  injection e with e
  apply h
  apply ByteArray.ext
  exact Array.toList_inj.1 e

theorem mapOf_put {D : DataW Unit} {ds : List ByteArray} {s : ByteArray} (h : MapOf D ds) (hs : ¬ ixN s ds < ds.length) :
    MapOf (D.put (.string s.data.toList) (.lit (.int .i64 (ds.length : Nat)))) (ds ++ [s]) := by
  obtain ⟨hm, h⟩ := h
  refine ⟨hm.put _ _, fun t => ?_⟩
  by_cases e : t = s
  · subst e
    have hn := ixN_new hs
    refine ⟨?_, fun _ => ?_⟩
    · rw [has_put_same hm (show WideAt.IsKeyLit (.string t.data.toList) from trivial), hn]; simp
    · rw [atKey_put_same hm (show WideAt.IsKeyLit (.string t.data.toList) from trivial), hn]
  · rw [has_put_other (key_ne e), atKey_put_other (key_ne e)]
    obtain ⟨h1, h2⟩ := h t
    by_cases ht : ixN t ds < ds.length
    · rw [ixN_append ht]
      refine ⟨?_, fun _ => h2 ht⟩
      rw [h1]; simp; omega
    · have hn := ixN_other e ht
      refine ⟨?_, fun q => absurd q hn⟩
      rw [h1]; simp only [ht, hn]

end Go.Proofs.Qxb6619614a
