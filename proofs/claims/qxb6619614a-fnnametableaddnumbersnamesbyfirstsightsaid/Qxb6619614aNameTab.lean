/-
  The name table in memory: what its blocks hold, and what stays while another block is written.
-/
import Derived.Test.Qxb6619614aNamePlain
import Derived.WalkKit
import Derived.WalkSpells
import Derived.WalkLawsBesides
import Derived.Maps.AppendAt
namespace Go.Proofs.Qxb6619614a
open Go.RowKit Go.Maps

theorem bytes_beq (d s : ByteArray) : (d.toList == s.toList) = decide (d = s) := by
  rw [Bool.eq_iff_iff]
  simp only [beq_iff_eq, decide_eq_true_eq]
  constructor
  · intro h
    rw [ByteArray.toList_eq, ByteArray.toList_eq] at h
    exact ByteArray.ext (Array.toList_inj.1 h)
  · intro h; rw [h]

theorem own_shape {w : World} {base : Nat} {e : TypeId} {size : Nat} {v : Value} {n : Nat} {xs : List Value} (h : w.ownsRow base e size v n xs) : ∃ a c, v = .slice a n c := by
  rcases h.2 with ⟨rfl, rfl⟩ | ⟨g, cap, cur, rfl, _⟩
  · exact ⟨_, _, rfl⟩
  · exact ⟨_, _, rfl⟩

/-- The table that a pointer to block B leads to: nv is its slice of names, mv its map. -/
structure Tab (w : World) (B : Nat) (nv mv : Value) (ds : List ByteArray) : Prop where
  c0 : w.cell? ⟨B, 0, none⟩ = some nv
  c1 : w.cell? ⟨B, 1, none⟩ = some mv
  f0 : w.frozen? ⟨B, 0, none⟩ = false
  f1 : w.frozen? ⟨B, 1, none⟩ = false
  lt : B < w.heap.size
  row : w.ownsRow (B + 1) 9 1 nv ds.length (ds.map Value.string)
  map : (mv = .map none ∧ ds = []) ∨ ∃ M D, mv = .map (some M) ∧ B < M ∧ nv.ownBlock ≠ some M ∧ w.ownsMap (H := Unit) Try.prog 9 (plainElem Try.prog 3) M ds.length D ∧ MapOf D ds

/-- A block that is none of the table's. -/
def Foreign (B : Nat) (nv mv : Value) (k : Nat) : Prop := k ≠ B ∧ nv.ownBlock ≠ some k ∧ mv ≠ .map (some k)

theorem Tab.foreign_new {w : World} {B : Nat} {nv mv : Value} {ds : List ByteArray} (h : Tab w B nv mv ds) {k : Nat} (hk : w.heap.size ≤ k) : Foreign B nv mv k := by
  refine ⟨by have := h.lt; omega, fun e => ?_, fun e => ?_⟩
  · have := (h.row.lt k e).2; omega
  · rcases h.map with ⟨rfl, _⟩ | ⟨M, D, rfl, _, _, ho, _⟩
    · cases e
    · have := ho.lt
      simp at e
      omega

/-- The table stays while a block that is none of its own is written, and new ones are made. -/
theorem Tab.kept {w w' : World} {B : Nat} {nv mv : Value} {ds : List ByteArray} {row : Option Nat} (h : Tab w B nv mv ds) (hg : w.grownBy w' row) (hf : ∀ k, row = some k → Foreign B nv mv k) : Tab w' B nv mv ds := by
  have hB : some B ≠ row := fun e => (hf B e.symm).1 rfl
  have hb := hg.block B h.lt hB
  refine ⟨(World.cell?_of_block (w := w) hb).trans h.c0, (World.cell?_of_block (w := w) hb).trans h.c1, (World.frozen?_of_block (w := w) hb).trans h.f0, (World.frozen?_of_block (w := w) hb).trans h.f1, Nat.lt_of_lt_of_le h.lt hg.size, h.row.kept hg ?_, ?_⟩
  · cases hn : nv.ownBlock with
    | none => exact .inl rfl
    | some g => exact .inr (fun e => (hf g e.symm).2.1 hn)
  · rcases h.map with q | ⟨M, D, rfl, h1, h2, ho, hm⟩
    · exact .inl q
    · exact .inr ⟨M, D, rfl, h1, h2, ho.kept hg (fun e => (hf M e.symm).2.2 rfl), hm⟩

theorem Tab.alloc {w : World} {B : Nat} {nv mv : Value} {ds : List ByteArray} (h : Tab w B nv mv ds) (o : Obj) : Tab (w.alloc o) B nv mv ds :=
  h.kept (World.grownBy_alloc w o none) (by simp)

theorem Tab.drewN {w : World} {B : Nat} {nv mv : Value} {ds : List ByteArray} (h : Tab w B nv mv ds) (n : Nat) : Tab (w.drewN n) B nv mv ds :=
  h.kept (row := none) ⟨rfl, rfl, rfl, Nat.le_refl _, fun _ _ _ => rfl⟩ (by simp)

/-- A new table. -/
theorem Tab.made (w : World) : Tab (w.alloc (.cells #[.slice none 0 0, .map none] 39)) w.heap.size (.slice none 0 0) (.map none) [] :=
  ⟨by simp, by simp, by simp, by simp, by simp, World.ownsRow_nil _ _ _ _, .inl ⟨rfl, rfl⟩⟩

/-- What a call on the table leaves: of the blocks that were there the table's own alone have turned; a block that was none of them is none of them. -/
structure Turn (w w' : World) (B : Nat) (nv mv nv' mv' : Value) : Prop where
  os : w'.os = w.os
  tape : w'.tape = w.tape
  output : w'.output = w.output
  size : w.heap.size ≤ w'.heap.size
  block : ∀ k, k < w.heap.size → Foreign B nv mv k → w'.heap[k]? = w.heap[k]? ∧ Foreign B nv' mv' k

theorem Turn.below {w0 w w' : World} {B : Nat} {nv mv nv' mv' : Value} {ds : List ByteArray} (t : Turn w w' B nv mv nv' mv') (h : Tab w B nv mv ds) (hb : Below B w0 w) : Below B w0 w' := by
  refine hb.trans ⟨t.os, t.tape, t.output, t.size, fun k hk => (t.block k (by have := h.lt; omega) ⟨by omega, fun e => ?_, fun e => ?_⟩).1⟩
  · have := (h.row.lt k e).1; omega
  · rcases h.map with ⟨rfl, _⟩ | ⟨M, D, rfl, h1, _⟩
    · cases e
    · simp at e; omega

theorem Turn.row {w w' : World} {B : Nat} {nv mv nv' mv' : Value} {base : Nat} {e : TypeId} {size : Nat} {v : Value} {n : Nat} {xs : List Value} (t : Turn w w' B nv mv nv' mv') (h : w.ownsRow base e size v n xs) (hf : ∀ k, v.ownBlock = some k → Foreign B nv mv k) :
    w'.ownsRow base e size v n xs ∧ ∀ k, v.ownBlock = some k → Foreign B nv' mv' k := by
  refine ⟨⟨h.1, ?_⟩, fun k hk => (t.block k (h.lt k hk).2 (hf k hk)).2⟩
  rcases h.2 with hn | ⟨g, cap, cur, rfl, hb, hgg, rest⟩
  · exact .inl hn
  · exact .inr ⟨g, cap, cur, rfl, hb, by rw [(t.block g (Array.getElem?_eq_some_iff.1 hgg).1 (hf g rfl)).1]; exact hgg, rest⟩

/-- The end of 'add' at a new name: what its steps have made. -/
theorem Tab.added {w w1 w2 : World} {B M : Nat} {nv v' : Value} {ds : List ByteArray} {s : ByteArray} {D : DataW Unit} (hBM : B < M) (hnM : nv.ownBlock ≠ some M) (hlt : B < w.heap.size)
    (hown1 : w1.ownsMap (H := Unit) Try.prog 9 (plainElem Try.prog 3) M (ds.length + 1) D) (hD : MapOf D (ds ++ [s]))
    (hrow1 : w1.ownsRow (B + 1) 9 1 nv ds.length (ds.map Value.string)) (hs1 : w.heap.size ≤ w1.heap.size)
    (c1 : w1.cell? ⟨B, 1, none⟩ = some (.map (some M))) (f0 : w1.frozen? ⟨B, 0, none⟩ = false) (f1 : w1.frozen? ⟨B, 1, none⟩ = false) (c0 : w1.cell? ⟨B, 0, none⟩ = some nv)
    (hown' : w2.ownsRow (B + 1) 9 1 v' (ds.length + 1) (ds.map Value.string ++ [.string s])) (hgrow : (w1.alloc (.cells #[.string s] 9)).grownBy w2 nv.ownBlock)
    (hloc : v'.ownBlock = nv.ownBlock ∨ v'.ownBlock = some (w1.heap.size + 1)) :
    Tab (w2.setCell ⟨B, 0, none⟩ v') B v' (.map (some M)) (ds ++ [s]) := by
  have hall : w1.grownBy w2 nv.ownBlock := by
    refine ⟨hgrow.os, hgrow.tape, hgrow.output, Nat.le_trans (by simp) hgrow.size, fun k hk hne => ?_⟩
    rw [hgrow.block k (by simp; omega) hne]
    exact Below.heap_alloc _ _ _ hk
  have hBn : some B ≠ nv.ownBlock := fun e => by have := (hrow1.lt B e.symm).1; omega
  have hbB := hall.block B (by omega) hBn
  have hMlt := hown1.lt
  have hvM : v'.ownBlock ≠ some M := by
    rcases hloc with e | e
    · rw [e]; exact hnM
    · rw [e]; intro q; injection q with q; omega
  have hvB : ∀ k, v'.ownBlock = some k → B + 1 ≤ k := fun k hk => (hown'.lt k hk).1
  have c0' : w2.cell? ⟨B, 0, none⟩ = some nv := (World.cell?_of_block (w := w1) hbB).trans c0
  have c1' : w2.cell? ⟨B, 1, none⟩ = some (.map (some M)) := (World.cell?_of_block (w := w1) hbB).trans c1
  have f0' : w2.frozen? ⟨B, 0, none⟩ = false := (World.frozen?_of_block (w := w1) hbB).trans f0
  have f1' : w2.frozen? ⟨B, 1, none⟩ = false := (World.frozen?_of_block (w := w1) hbB).trans f1
  refine ⟨World.cell?_setCell_same _ _ _ c0', ?_, by rw [World.frozen?_setCell]; exact f0', by rw [World.frozen?_setCell]; exact f1', ?_, ?_, .inr ⟨M, D, rfl, hBM, hvM, ?_, hD⟩⟩
  · rw [World.cell?_setCell_other _ _ _ _ (by simp)]; exact c1'
  · have : B < w2.heap.size := by have := hall.size; omega
    simpa [World.setCell] using this
  · have := ownsRow_setCell_below hown' (a := ⟨B, 0, none⟩) (by simp) v'
    simpa using this
  · have := (hown1.kept hall (fun e => hnM e.symm)).setCell (a := ⟨B, 0, none⟩) (show M ≠ B by omega) v'
    simpa using this

/-- .. and of the world. -/
theorem Turn.added {w w1 w2 : World} {B M : Nat} {nv mv v' : Value} {row1 : Option Nat} {s : ByteArray} (hg1 : w.grownBy w1 row1) (hr1 : ∀ k, k < w.heap.size → row1 = some k → k = B ∨ mv = .map (some k)) (hMold : w.heap.size ≤ M ∨ mv = .map (some M))
    (hgrow : (w1.alloc (.cells #[.string s] 9)).grownBy w2 nv.ownBlock) (hloc : v'.ownBlock = nv.ownBlock ∨ v'.ownBlock = some (w1.heap.size + 1)) :
    Turn w (w2.setCell ⟨B, 0, none⟩ v') B nv mv v' (.map (some M)) := by
  have hs : w1.heap.size + 1 ≤ w2.heap.size := by have := hgrow.size; simpa using this
  refine ⟨hgrow.os.trans hg1.os, hgrow.tape.trans hg1.tape, hgrow.output.trans hg1.output, ?_, fun k hk hf => ⟨?_, ?_⟩⟩
  · have := hg1.size
    simp [World.setCell]
    omega
  · obtain ⟨h1, h2, h3⟩ := hf
    rw [Below.heap_setCell _ _ _ _ h1, hgrow.block k (by have := hg1.size; simp; omega) (fun e => h2 e.symm), Below.heap_alloc _ _ _ (by have := hg1.size; omega)]
    exact hg1.block k hk (fun e => by rcases hr1 k hk e.symm with q | q; exact h1 q; exact h3 q)
  · obtain ⟨h1, h2, h3⟩ := hf
    refine ⟨h1, ?_, ?_⟩
    · rcases hloc with e | e
      · rw [e]; exact h2
      · rw [e]; intro q; injection q with q; have := hg1.size; omega
    · intro q
      rcases hMold with e | e
      · simp at q; omega
      · exact h3 (by rw [e]; exact q)

end Go.Proofs.Qxb6619614a
