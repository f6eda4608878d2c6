/-
  The walk of the law on hexDigit.
-/
import Derived.Test.Qxb6619614aHexPlain
namespace Go.Proofs.Qxb6619614a
open Go.RowKit

/-- The array 'count' lies in the first new block and holds f; of what was there nothing has turned. -/
structure Arr (w wr : World) (f : Nat → Int) : Prop where
  grown : Grown w wr
  size : wr.heap.size = w.heap.size + 1
  cell : ∀ j, j < 16 → wr.cell? ⟨w.heap.size, j, none⟩ = some (.int .i64 (f j))
  free : ∀ j, wr.frozen? ⟨w.heap.size, j, none⟩ = false

theorem zeros16 : ∀ j : Fin 16, (#[Value.int IntKind.i64 0, Value.int IntKind.i64 0, Value.int IntKind.i64 0, Value.int IntKind.i64 0, Value.int IntKind.i64 0, Value.int IntKind.i64 0, Value.int IntKind.i64 0, Value.int IntKind.i64 0, Value.int IntKind.i64 0, Value.int IntKind.i64 0, Value.int IntKind.i64 0, Value.int IntKind.i64 0, Value.int IntKind.i64 0, Value.int IntKind.i64 0, Value.int IntKind.i64 0, Value.int IntKind.i64 0] : Array Value)[j.val]? = some (Value.int IntKind.i64 0) := by
  intro ⟨j, hj⟩
  match j, hj with
  | 0, _ | 1, _ | 2, _ | 3, _ | 4, _ | 5, _ | 6, _ | 7, _ | 8, _ | 9, _ | 10, _ | 11, _ | 12, _ | 13, _ | 14, _ | 15, _ => rfl
  | n + 16, h => exact absurd h (by omega)

theorem Arr.start (w : World) (t : TypeId) : Arr w (w.alloc (.cells #[Value.int IntKind.i64 0, Value.int IntKind.i64 0, Value.int IntKind.i64 0, Value.int IntKind.i64 0, Value.int IntKind.i64 0, Value.int IntKind.i64 0, Value.int IntKind.i64 0, Value.int IntKind.i64 0, Value.int IntKind.i64 0, Value.int IntKind.i64 0, Value.int IntKind.i64 0, Value.int IntKind.i64 0, Value.int IntKind.i64 0, Value.int IntKind.i64 0, Value.int IntKind.i64 0, Value.int IntKind.i64 0] t)) (cnt 0) :=
  ⟨(Grown.refl _).alloc _ _, by simp, fun j hj => by rw [World.cell?_alloc_new]; exact zeros16 ⟨j, hj⟩, fun j => World.frozen?_alloc_new _ _ _ _⟩

theorem Arr.no {w wr : World} {k : Nat} (h : Arr w wr (cnt k)) (hb : hxB (k : Int) = false) : Arr w wr (cnt (k + 1)) :=
  ⟨h.grown, h.size, fun j hj => by rw [cnt_no hb]; exact h.cell j hj, h.free⟩

theorem Arr.hit {w wr : World} {k : Nat} (h : Arr w wr (cnt k)) (hb : hxB (k : Int) = true) :
    Arr w (wr.setCell ⟨w.heap.size, (hxV (k : Int)).toNat, none⟩ (.int .i64 (cnt k (hxV (k : Int)).toNat + 1))) (cnt (k + 1)) := by
  have hbd := hx_bd hb
  refine ⟨h.grown.setCell (Nat.le_refl _) _, by simpa [World.setCell] using h.size, fun j hj => ?_, fun j => by rw [World.frozen?_setCell]; exact h.free j⟩
  by_cases e : j = (hxV (k : Int)).toNat
  · subst e
    rw [World.cell?_setCell_same _ _ _ (h.cell _ hj), cnt_hit hb]
  · rw [World.cell?_setCell_other _ _ _ _ (by intro q; injection q with _ q; exact e q.symm), cnt_miss e]
    exact h.cell j hj

end Go.Proofs.Qxb6619614a
