/-
  What the two laws know of memory between their calls.
-/
import Derived.Test.Qxb6617321aWithout
namespace Go.Proofs.Qxb6617321a
open Go.RowKit

/-- zzMaxScore at the bounds that the laws hand it. -/
theorem max_all {v : Value} {ls : List (List Row)} {w : World} {n : Nat} (h : InR w v ls) (hF : Fits ls) (hn : n = ls.length) :
    Calls Try.prog 11 #[v, .int .i64 0, .int .i64 n] w fun e w' => e = .returned (.int .i64 (mxTo (scs ls) 0 n)) ∧ Draws w w' := by
  have := max_any 0 n h hF (by omega)
  rw [Nat.zero_add] at this
  exact this
theorem max_head {v : Value} {ls : List (List Row)} {w : World} {p : Nat} (h : InR w v ls) (hF : Fits ls) (hp : p ≤ ls.length) :
    Calls Try.prog 11 #[v, .int .i64 0, .int .i64 p] w fun e w' => e = .returned (.int .i64 (mxTo (scs ls) 0 p)) ∧ Draws w w' := by
  have := max_any 0 p h hF (by omega)
  rw [Nat.zero_add] at this
  exact this
theorem max_tail {v : Value} {ls : List (List Row)} {w : World} {p n : Nat} (h : InR w v ls) (hF : Fits ls) (hn : n = ls.length) (hp : p ≤ n) :
    Calls Try.prog 11 #[v, .int .i64 p, .int .i64 n] w fun e w' => e = .returned (.int .i64 (mxTo (scs ls) p (n - p))) ∧ Draws w w' := by
  have := max_any p (n - p) h hF (by omega)
  rw [show p + (n - p) = n by omega] at this
  exact this

/-- A slice of groups: the cells from the head of block b on, and what each group is. -/
structure Held (w : World) (b n : Nat) (f : Nat → Value) (L : Nat → List Row) : Prop where
  cells : Cells w b n f
  grps : ∀ j, j < n → Grp w (f j) (L j)
  sl : IsSl f
  lens : ∀ j, j < n → ((L j).length : Int) ≤ 1048576

theorem Held.below {w w' : World} {b n : Nat} {f : Nat → Value} {L : Nat → List Row} (h : Held w b n f L) (hb : Below w.heap.size w w') : Held w' b n f L :=
  ⟨h.cells.below hb, fun j hj => (h.grps j hj).below hb, h.sl, h.lens⟩
theorem Held.lt {w : World} {b n : Nat} {f : Nat → Value} {L : Nat → List Row} (h : Held w b n f L) (hn : 0 < n) : b < w.heap.size := cell_lt (h.cells 0 hn)

theorem isSl_of {w : World} {vs : List Value} {ls : List (List Row)} (h : ∀ j, j < vs.length → Grp w (vs.getD j nilV) (ls.getD j [])) : IsSl (fun j => vs.getD j nilV) := fun j => by
  by_cases e : j < vs.length
  · obtain ⟨a, c, q⟩ := (h j e).shape
    exact ⟨a, _, c, q⟩
  · refine ⟨none, 0, 0, ?_⟩
    show vs.getD j nilV = _
    rw [List.getD_eq_getElem?_getD, List.getElem?_eq_none (by omega)]
    rfl

theorem Builds.held {w w1 : World} {n : Nat} {vs : List Value} {ls : List (List Row)} (h : Builds w w1 n vs ls) (hn : vs.length = n) (hl : n = ls.length) (hF : Fits ls) : Held w1 w.heap.size n (fun j => vs.getD j nilV) (fun j => ls.getD j []) :=
  ⟨fun j hj => h.row.cell hj, fun j hj => h.grps j (by omega), isSl_of h.grps, fun j hj => hF.2 j (by omega)⟩

/-- A row that a contract has filled. -/
theorem Fill.cells {w w1 : World} {n : Nat} {f : Nat → Value} (h : Fill w w1 n f) : Cells w1 w.heap.size n f := fun _ hj => h.row.cell hj

/-- Of a fresh block that is written nothing that was there turns. -/
theorem below_own {w w1 w2 : World} (h : Below w.heap.size w w1) (hg : w1.grownBy w2 (some w.heap.size)) : Below w.heap.size w w2 :=
  h.grown hg h.size (fun k hk => by injection hk with hk; omega)

/-- ZZWithoutLargestFile at whatever length. -/
theorem zwl_any (b n i : Nat) (f : Nat → Value) (L : Nat → List Row) (s : Nat → Int) (w : World) (hn : (n : Int) ≤ 4194304) (hf : IsSl f) (hrow : w.rowIs b 32 n f)
    (hG : ∀ j, j < n → Grp w (f j) (L j)) (hL : ∀ j, j < n → ((L j).length : Int) ≤ 1048576) (hs : ∀ j, j < n → s j = score (L j)) (hi : 0 < n → kpTo s n = ((i : Int), s i) ∧ i < n) :
    Calls Try.prog 9 #[.slice (some ⟨b, 0, none⟩) n n] w fun e w' => e = .returned (.slice (some ⟨b, 0, none⟩) (n - 1) n) ∧ w'.rowIs b 32 n (without f n i) ∧ w.grownBy w' (some b) := by
  by_cases h0 : 0 < n
  · exact zwl_some b n i f L s w hn h0 hf hrow hG hL hs (hi h0).1 (hi h0).2
  · obtain rfl : n = 0 := by omega
    refine (zwl_none b 0 w).mono ?_
    rintro e w' ⟨rfl, rfl⟩
    exact ⟨rfl, hrow.congr (fun j hj => by omega), ⟨rfl, rfl, rfl, Nat.le_refl _, fun _ _ _ => rfl⟩⟩

/-- The place that is dropped. -/
theorem dropped (s : Nat → Int) (h0 : ∀ k, 0 ≤ s k) (n : Nat) : ∃ i : Nat, (0 < n → kpTo s n = ((i : Int), s i) ∧ i < n) ∧ (0 < n → LastMax s n i) := by
  by_cases h : 0 < n
  · obtain ⟨i, e, hl⟩ := kpTo_spec s h0 n h
    exact ⟨i, fun _ => ⟨e, hl.1⟩, fun _ => hl⟩
  · exact ⟨0, fun q => absurd q h, fun q => absurd q h⟩

/-- The groups of 'without', each as it was. -/
def withoutL (L : Nat → List Row) (i : Nat) (j : Nat) : List Row := if j < i then L j else L (j + 1)
theorem without_grps {w : World} {n i : Nat} {f : Nat → Value} {L : Nat → List Row} (hG : ∀ j, j < n → Grp w (f j) (L j)) : ∀ j, j < n - 1 → Grp w (without f n i j) (withoutL L i j) := fun j hj => by
  unfold without withoutL
  by_cases e : j < i
  · rw [if_pos e, if_pos e]; exact hG j (by omega)
  · rw [if_neg e, if_neg e, if_pos (by omega)]; exact hG (j + 1) (by omega)
theorem without_lens {n i : Nat} {L : Nat → List Row} (hL : ∀ j, j < n → ((L j).length : Int) ≤ 1048576) : ∀ j, j < n - 1 → ((withoutL L i j).length : Int) ≤ 1048576 := fun j hj => by
  unfold withoutL
  by_cases e : j < i
  · rw [if_pos e]; exact hL j (by omega)
  · rw [if_neg e]; exact hL (j + 1) (by omega)
theorem without_sl {f : Nat → Value} (hf : IsSl f) (n i : Nat) : IsSl (without f n i) := fun j => by
  unfold without
  split
  · exact hf j
  · split
    · exact hf (j + 1)
    · exact ⟨none, 0, 0, rfl⟩

end Go.Proofs.Qxb6617321a
