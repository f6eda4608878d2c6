/-
  'zzc := make([]byte, len(text)); copy(zzc, text)': what it leaves: a row of its own that holds the bytes.
-/
import Derived.Test.Qxb6619614aSkipWalks
import Derived.Laws.CopyOwn
import Derived.Deep.OwnRows
namespace Go.Proofs.Qxb6619614a
open Go.RowKit

theorem info5 : (Try.prog.info? 5).map (fun i => (i.zero, i.size, i.bytes)) = some (some (.int .u8 0), 1, 1) := by kernel_rfl
theorem size5 : (Try.prog.info? 5).map (·.size) = some 1 := by kernel_rfl

theorem add_plain (b o i : Nat) : (⟨b, o, none⟩ : Addr).add i = ⟨b, o + i, none⟩ := by unfold Addr.add; split <;> simp_all

theorem copy_new (w : World) (b off len cap : Nat) (f : Nat → Int) (hcell : ∀ k, k < len → w.cell? ⟨b, off + k, none⟩ = some (.int .u8 (f k))) :
    ∃ W2, (∀ ty, (Builtin.copy_ #[26, 26] ty #[.slice (some ⟨w.heap.size, 0, none⟩) len len, .slice (some ⟨b, off, none⟩) len cap]).run Try.prog (w.alloc (.cells (madeCells #[.int .u8 0] len) 5)) = .ok (.int .i64 len) W2) ∧
      W2.rowIs w.heap.size 5 len (fun k => .int .u8 (f k)) ∧ Below w.heap.size w W2 := by
  have hg := Deep.blk_alloc_new w (.cells (madeCells #[.int .u8 0] len) 5)
  have hL : ((List.range len).map (fun k => Value.int .u8 (f k))).length = len := by simp
  have hrun := fun ty => run_copy_row Try.prog (w.alloc (.cells (madeCells #[.int .u8 0] len) 5)) 26 26 ty 5 w.heap.size 0 len len ⟨b, off, none⟩ len cap _ 5 ((List.range len).map (fun k => Value.int .u8 (f k))) Try.underlying26 size5 hg (by simp)
    (by
      intro j v hv
      rw [List.getElem?_map] at hv
      obtain ⟨k, hk, rfl⟩ := Option.map_eq_some_iff.1 hv
      have hj : j < len ∧ k = j := by
        obtain ⟨h1, h2⟩ := List.getElem?_eq_some_iff.1 hk
        simp at h1 h2
        exact ⟨h1, h2.symm⟩
      obtain ⟨hj, rfl⟩ := hj
      have hc := hcell k hj
      rw [add_plain]; exact Lib.cell?_alloc_some _ hc)
    (by simp [size_madeCells]) (by intro v hv; obtain ⟨k, _, rfl⟩ := List.mem_map.1 hv; rfl)
  generalize hcs : (List.take 0 (madeCells #[Value.int IntKind.u8 0] len).toList ++ List.map (fun k => Value.int IntKind.u8 (f k)) (List.range len) ++ List.drop (0 + (List.map (fun k => Value.int IntKind.u8 (f k)) (List.range len)).length) (madeCells #[Value.int IntKind.u8 0] len).toList).toArray = cs at hrun
  have hs : cs.size = len := by rw [← hcs]; simp [size_madeCells]
  have hi : ∀ i, i < len → cs[i]? = some (Value.int .u8 (f i)) := fun i hi => by rw [← hcs]; simp; rw [List.getElem?_append_left (by simpa using hi)]; simp [hi]
  rw [hL] at hrun
  exact ⟨(w.alloc (.cells (madeCells #[.int .u8 0] len) 5)).setRow w.heap.size cs, hrun, ⟨cs, setRow_heap _ _ _ _ _ _ hg, hs, hi⟩, below_setRow (((Below.refl _ _).alloc (Nat.le_refl _) _)) (Nat.le_refl _) _⟩

end Go.Proofs.Qxb6619614a
