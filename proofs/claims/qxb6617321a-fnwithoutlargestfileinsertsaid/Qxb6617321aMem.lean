/-
  What the laws' values are in memory: the rows that came in, the groups that the laws build, the slices of groups.
-/
import Derived.Test.Qxb6617321aPlain
import Derived.WalkSpells
import Derived.WalkLawsBesides
import Derived.Deep.QuietTactic
import Derived.BigQuiet
import Derived.Deep.OwnRows
namespace Go.Proofs.Qxb6617321a
open Go.RowKit

theorem hideN {p : Prop} (h : p) : Hid p := h

/-- The nil slice. -/
def nilV : Value := .slice none 0 0

/-- The three cells of the k-th row of a group that came in. -/
def RowCells (w : World) (b off : Nat) (l : List Row) : Prop :=
  ∀ k, k < l.length → w.cell? ⟨b, off + k * 3, none⟩ = some (.int .i64 (rowAt l k).a) ∧ w.cell? ⟨b, off + k * 3 + 1, none⟩ = some (.int .i64 (rowAt l k).d) ∧ w.cell? ⟨b, off + k * 3 + 2, none⟩ = some (.string (rowAt l k).t)

/-- v is a group that came in, its rows l: nil; or empty, whatever its address; or a row of cells. -/
def InG (w : World) (v : Value) (l : List Row) : Prop :=
  (v = .slice none 0 0 ∧ l = []) ∨ (∃ x c, v = .slice (some x) 0 c ∧ l = []) ∨ ∃ b off c, v = .slice (some ⟨b, off, none⟩) l.length c ∧ RowCells w b off l

/-- v is a list of groups that came in. -/
def InR (w : World) (v : Value) (ls : List (List Row)) : Prop :=
  (∃ a c, v = .slice a 0 c ∧ ls = []) ∨ ∃ b off c, v = .slice (some ⟨b, off, none⟩) ls.length c ∧ ∀ i, i < ls.length → ∃ u, w.cell? ⟨b, off + i, none⟩ = some u ∧ InG w u (ls.getD i [])

/-- The cells of a file that the laws build: block pb. -/
def FileAt (w : World) (pb : Nat) (r : Row) : Prop :=
  w.cell? ⟨pb, 4, none⟩ = some (.int .i64 r.a) ∧ w.cell? ⟨pb, 5, none⟩ = some (.int .i64 r.d) ∧ w.cell? ⟨pb, 10, none⟩ = some (.string r.t)

/-- v is a group that the laws have built out of the rows l. -/
def Grp (w : World) (v : Value) (l : List Row) : Prop :=
  (v = .slice none 0 0 ∧ l = []) ∨ ∃ g, v = .slice (some ⟨g, 0, none⟩) l.length l.length ∧ ∀ k, k < l.length → ∃ pb, w.cell? ⟨g, k, none⟩ = some (.pointer (some ⟨pb, 0, none⟩)) ∧ FileAt w pb (rowAt l k)

/-- v is a slice of the groups vs; it begins at its block's head. -/
def Grps (w : World) (v : Value) (vs : List Value) : Prop :=
  ∃ b c, v = .slice (some ⟨b, 0, none⟩) vs.length c ∧ ∀ i, i < vs.length → w.cell? ⟨b, i, none⟩ = some (vs.getD i nilV)

theorem cell_lt {w : World} {p : Addr} {v : Value} (h : w.cell? p = some v) : p.block < w.heap.size := by
  by_cases e : p.block < w.heap.size
  · exact e
  · have hn : w.heap[p.block]? = none := by simp; omega
    simp [World.cell?, hn] at h

/-- Every cell that was there holds what it held. -/
theorem keep_cell {w w' : World} (hb : Below w.heap.size w w') {p : Addr} {v : Value} (h : w.cell? p = some v) : w'.cell? p = some v := (hb.cell (cell_lt h)).trans h

theorem RowCells.below {w w' : World} {b off : Nat} {l : List Row} (h : RowCells w b off l) (hb : Below w.heap.size w w') : RowCells w' b off l :=
  fun k hk => ⟨keep_cell hb (h k hk).1, keep_cell hb (h k hk).2.1, keep_cell hb (h k hk).2.2⟩
theorem InG.below {w w' : World} {v : Value} {l : List Row} (h : InG w v l) (hb : Below w.heap.size w w') : InG w' v l := by
  rcases h with h | h | ⟨b, off, c, e, h⟩
  · exact .inl h
  · exact .inr (.inl h)
  · exact .inr (.inr ⟨b, off, c, e, h.below hb⟩)
theorem InR.below {w w' : World} {v : Value} {ls : List (List Row)} (h : InR w v ls) (hb : Below w.heap.size w w') : InR w' v ls := by
  rcases h with h | ⟨b, off, c, e, h⟩
  · exact .inl h
  · refine .inr ⟨b, off, c, e, fun i hi => ?_⟩
    obtain ⟨u, h1, h2⟩ := h i hi
    exact ⟨u, keep_cell hb h1, h2.below hb⟩
theorem Grp.below {w w' : World} {v : Value} {l : List Row} (h : Grp w v l) (hb : Below w.heap.size w w') : Grp w' v l := by
  rcases h with h | ⟨g, e, h⟩
  · exact .inl h
  · refine .inr ⟨g, e, fun k hk => ?_⟩
    obtain ⟨pb, h1, h2, h3, h4⟩ := h k hk
    exact ⟨pb, keep_cell hb h1, keep_cell hb h2, keep_cell hb h3, keep_cell hb h4⟩
theorem Grps.below {w w' : World} {v : Value} {vs : List Value} (h : Grps w v vs) (hb : Below w.heap.size w w') : Grps w' v vs := by
  obtain ⟨b, c, e, h⟩ := h
  exact ⟨b, c, e, fun i hi => keep_cell hb (h i hi)⟩

theorem drewN_below (w : World) (n : Nat) : Below w.heap.size w (w.drewN n) := below_drewN (Below.refl _ _) n

theorem InG.shape {w : World} {v : Value} {l : List Row} (h : InG w v l) : ∃ a c, v = .slice a l.length c := by
  rcases h with ⟨rfl, rfl⟩ | ⟨x, c, rfl, rfl⟩ | ⟨b, off, c, rfl, _⟩
  · exact ⟨_, _, rfl⟩
  · exact ⟨_, _, rfl⟩
  · exact ⟨_, _, rfl⟩
theorem Grp.shape {w : World} {v : Value} {l : List Row} (h : Grp w v l) : ∃ a c, v = .slice a l.length c := by
  rcases h with ⟨rfl, rfl⟩ | ⟨g, rfl, _⟩
  · exact ⟨_, _, rfl⟩
  · exact ⟨_, _, rfl⟩

end Go.Proofs.Qxb6617321a
