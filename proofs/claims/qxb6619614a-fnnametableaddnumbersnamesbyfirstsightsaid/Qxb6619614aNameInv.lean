/-
  What holds at the head of the law's second loop, and what its round makes of it.
-/
import Derived.Test.Qxb6619614aNameEmpty
namespace Go.Proofs.Qxb6619614a
open Go.RowKit Go.Maps

theorem hideN {p : Prop} (h : p) : Hid p := h

structure Inv (w wr : World) (nv mv dv : Value) (ds : List ByteArray) : Prop where
  tab : Tab wr w.heap.size nv mv ds
  row : wr.ownsRow (w.heap.size + 1) 9 1 dv ds.length (ds.map Value.string)
  far : ∀ k, dv.ownBlock = some k → Foreign w.heap.size nv mv k
  below : Below w.heap.size w wr

theorem Inv.start (w : World) : Inv w (w.alloc (.cells #[.slice none 0 0, .map none] 39)) (.slice none 0 0) (.map none) (.slice none 0 0) [] :=
  ⟨Tab.made w, World.ownsRow_nil _ _ _ _, (fun k h => by cases h), (Below.refl _ _).alloc (Nat.le_refl _) _⟩

/-- Behind 'distinct = append(distinct, s)'. -/
theorem Inv.appended {w wr w1 : World} {nv mv dv v' : Value} {ds : List ByteArray} {s : ByteArray} (h : Inv w wr nv mv dv ds)
    (hgrow : (wr.alloc (.cells #[.string s] 9)).grownBy w1 dv.ownBlock)
    (hloc : v'.ownBlock = dv.ownBlock ∨ v'.ownBlock = some (wr.heap.size + 1)) :
    Tab w1 w.heap.size nv mv ds ∧ (∀ k, v'.ownBlock = some k → Foreign w.heap.size nv mv k) ∧ Below w.heap.size w w1 := by
  refine ⟨(h.tab.alloc _).kept hgrow h.far, fun k hk => ?_, ?_⟩
  · rcases hloc with e | e
    · exact h.far k (by rw [← e]; exact hk)
    · rw [e] at hk
      injection hk with hk
      exact h.tab.foreign_new (by omega)
  · have hlt := h.tab.lt
    have hb := h.below.alloc (show w.heap.size ≤ wr.heap.size by omega) (.cells #[.string s] 9)
    exact hb.grown hgrow (by simp; omega) (fun k hk => by have := (h.row.lt k hk).1; omega)

/-- .. and behind the add of the new name. -/
theorem Inv.added {w w1 w2 : World} {nv mv nv' mv' v' : Value} {ds : List ByteArray} {s : ByteArray}
    (hown' : w1.ownsRow (w.heap.size + 1) 9 1 v' (ds.length + 1) (ds.map Value.string ++ [.string s])) (hT1 : Tab w1 w.heap.size nv mv ds) (hf1 : ∀ k, v'.ownBlock = some k → Foreign w.heap.size nv mv k) (hb1 : Below w.heap.size w w1)
    (hT : Tab w2 w.heap.size nv' mv' (ds ++ [s])) (hTu : Turn w1 w2 w.heap.size nv mv nv' mv') : Inv w w2 nv' mv' v' (ds ++ [s]) := by
  obtain ⟨r, fr⟩ := hTu.row hown' hf1
  exact ⟨hT, by simpa using r, fr, hTu.below hT1 hb1⟩

theorem ddTo_hit {f : Nat → ByteArray} {k : Nat} (h : ixN (f k) (ddTo f k) < (ddTo f k).length) : ddTo f (k + 1) = ddTo f k := by rw [ddTo, addD, if_pos h]
theorem ddTo_miss {f : Nat → ByteArray} {k : Nat} (h : ¬ ixN (f k) (ddTo f k) < (ddTo f k).length) : ddTo f (k + 1) = ddTo f k ++ [f k] := by rw [ddTo, addD, if_neg h]
theorem ixI_hit {s : ByteArray} {ds : List ByteArray} (h : ixN s ds < ds.length) : ixI s ds = (ixN s ds : Nat) := by rw [ixI, if_pos h]
theorem ixI_miss {s : ByteArray} {ds : List ByteArray} (h : ¬ ixN s ds < ds.length) : ixI s ds = -1 := by rw [ixI, if_neg h]

/-- A row that is not empty has an address. -/
theorem own_some {w : World} {base : Nat} {v : Value} {ds : List ByteArray} (h : w.ownsRow base 9 1 v ds.length (ds.map Value.string)) (h0 : 0 < ds.length) :
    ∃ g c, v = .slice (some ⟨g, 0, none⟩) ds.length c ∧ ∀ k, k < ds.length → w.cell? ⟨g, k, none⟩ = some (.string (ds.getD k ByteArray.empty)) := by
  rcases h.2 with ⟨_, e⟩ | ⟨g, cap, cur, rfl, _⟩
  · omega
  · refine ⟨g, cap, rfl, fun k hk => ?_⟩
    rw [h.cellAt k (by omega)]
    simp [List.getElem?_eq_getElem hk]

theorem own_drewN {w : World} {base : Nat} {e : TypeId} {size : Nat} {v : Value} {n : Nat} {xs : List Value} (h : w.ownsRow base e size v n xs) (m : Nat) : (w.drewN m).ownsRow base e size v n xs := h

theorem Inv.drewN {w wr : World} {nv mv dv : Value} {ds : List ByteArray} (h : Inv w wr nv mv dv ds) (n : Nat) : Inv w (wr.drewN n) nv mv dv ds :=
  ⟨h.tab.drewN n, own_drewN h.row n, h.far, below_drewN h.below n⟩

theorem row_cell {w : World} {base g c : Nat} {ds : List ByteArray} (h : w.ownsRow base 9 1 (.slice (some ⟨g, 0, none⟩) ds.length c) ds.length (ds.map Value.string)) {k : Nat} (hk : k < ds.length) :
    w.cell? ⟨g, k, none⟩ = some (.string (ds.getD k ByteArray.empty)) := by
  rw [h.cellAt k (by omega)]
  simp [List.getElem?_eq_getElem hk]

theorem indexOf_hit {base : Nat} {v : Value} {ds : List ByteArray} {w : World} (s : ByteArray) (hown : w.ownsRow base 9 1 v ds.length (ds.map Value.string)) (hm : (ds.length : Int) ≤ 1048576) (hit : ixN s ds < ds.length) :
    Calls Try.prog 13 #[v, .string s] w fun e w' => e = .returned (.int .i64 (ixN s ds : Nat)) ∧ w' = w := by
  rw [← ixI_hit hit]
  exact indexOf_own s hown hm

end Go.Proofs.Qxb6619614a
