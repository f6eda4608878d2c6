/-
  The arguments opened: a list of groups of rows, and a group of rows, as the walks are told of them.
-/
import Derived.Test.Qxb6617321aMem
import Derived.ProofKit
import Derived.OpenShut
import Derived.Deep.Slices
import Derived.Deep.Strs
namespace Go.Proofs.Qxb6617321a
open Go.RowKit Go.Deep

theorem cells33 : Try.prog.cellsOf 33 = 1 := by kernel_rfl
theorem cells40 : Try.prog.cellsOf 40 = 3 := by kernel_rfl
theorem cells3 : Try.prog.cellsOf 3 = 1 := by kernel_rfl
theorem cells9 : Try.prog.cellsOf 9 = 1 := by kernel_rfl

theorem add_at (b o i : Nat) : (⟨b, o, none⟩ : Addr).add i = ⟨b, o + i, none⟩ := by unfold Addr.add; split <;> simp_all

section
variable {H : Type} {enc : TypeId × Value → H} {W : World} {base : Nat} {spare : Nat → Bool} {held : Bool}

/-- One row of a group: its three cells. -/
theorem open_row {fuel : Nat} {a : Addr} {cs : List Value} {x : DataW H × List MemPlace} (hc : W.cells? base a 3 = some cs) (h : DataW.trod enc Try.prog W base spare held fuel 40 cs = some x) :
    ∃ r : Row, W.cell? (a.add 0) = some (.int .i64 r.a) ∧ W.cell? (a.add 1) = some (.int .i64 r.d) ∧ W.cell? (a.add 2) = some (.string r.t) := by
  obtain ⟨y0, y1, y2, n, _, hl, h0, h1, h2⟩ := trod_struct3 Try.underlying40 h
  obtain ⟨_, hlen, hcell⟩ := World.cells?_some hc
  match cs, hlen with
  | [c0, c1, c2], _ =>
    simp only [cells3, cells9, List.drop_zero, List.take_succ_cons, List.take_zero, List.drop_succ_cons] at h0 h1 h2
    obtain ⟨q0, e0, _⟩ := DataW.trod_int Try.underlying3 h0
    obtain ⟨q1, e1, _⟩ := DataW.trod_int Try.underlying3 h1
    obtain ⟨q2, e2, _⟩ := DataW.trod_string Try.underlying9 h2
    simp only [List.cons.injEq, and_true] at e0 e1 e2
    subst e0 e1 e2
    exact ⟨⟨q0, q1, q2⟩, by simpa using hcell 0 (by omega), by simpa using hcell 1 (by omega), by simpa using hcell 2 (by omega)⟩

theorem open_inG {fuel : Nat} {v : Value} {x : DataW H × List MemPlace} (h : DataW.trod enc Try.prog W base spare held fuel 33 [v] = some x) :
    ∃ l, InG W v l ∧ (l.length : Int) ≤ 9223372036854775807 := by
  rcases open_slice Try.underlying33 h with ⟨hcs, _⟩ | ⟨a, len, cap, m, n, D, Pl, hcs, _, hl, hm, hmm, _, hx⟩
  · simp only [List.cons.injEq, and_true] at hcs
    exact ⟨[], .inl ⟨hcs, rfl⟩, by simp⟩
  · simp only [List.cons.injEq, and_true] at hcs
    unfold maxLen at hm
    have hml : len ≤ m := by rw [hmm]; split <;> omega
    by_cases h0 : len = 0
    · subst h0
      exact ⟨[], .inr (.inl ⟨a, cap, hcs, rfl⟩), by simp⟩
    · obtain ⟨F, hF⟩ := @choose_lt Row ⟨noRow⟩ len (fun i r => W.cell? ((a.add (i * 3)).add 0) = some (.int .i64 r.a) ∧ W.cell? ((a.add (i * 3)).add 1) = some (.int .i64 r.d) ∧ W.cell? ((a.add (i * 3)).add 2) = some (.string r.t)) (fun i hi => by
        obtain ⟨cs', h1, h2⟩ := hx i (by omega)
        rw [cells40] at h1
        exact open_row h1 h2)
      obtain ⟨b, off, spot⟩ := a
      have hc0 := (hF 0 (by omega)).1
      have hspot : spot = none := by simpa [Addr.add] using World.cell?_spot hc0
      subst hspot
      refine ⟨(List.range len).map F, .inr (.inr ⟨b, off, cap, by simpa using hcs, fun k hk => ?_⟩), by simp; omega⟩
      have hk' : k < len := by simpa using hk
      have e : rowAt ((List.range len).map F) k = F k := by simp [rowAt, hk']
      rw [e]
      obtain ⟨q0, q1, q2⟩ := hF k hk'
      rw [add_add, add_at] at q0 q1 q2
      exact ⟨q0, q1, q2⟩

theorem open_inR {fuel : Nat} {v : Value} {x : DataW H × List MemPlace} (h : DataW.trod enc Try.prog W base spare held fuel 22 [v] = some x) :
    ∃ ls : List (List Row), InR W v ls ∧ (ls.length : Int) ≤ 9223372036854775807 ∧ ∀ i, i < ls.length → ((ls.getD i []).length : Int) ≤ 9223372036854775807 := by
  rcases open_slice1 Try.underlying22 cells33 h with ⟨hcs, _⟩ | ⟨a, len, cap, m, n, V, D, Pl, hcs, _, hl, hm, hmm, _, hx⟩
  · simp only [List.cons.injEq, and_true] at hcs
    exact ⟨[], .inl ⟨none, 0, hcs, rfl⟩, by simp, fun i hi => by simp at hi⟩
  · simp only [List.cons.injEq, and_true] at hcs
    unfold maxLen at hm
    have hml : len ≤ m := by rw [hmm]; split <;> omega
    by_cases h0 : len = 0
    · subst h0
      exact ⟨[], .inl ⟨some a, cap, hcs, rfl⟩, by simp, fun i hi => by simp at hi⟩
    · obtain ⟨F, hF⟩ := @choose_lt (List Row) ⟨[]⟩ len (fun i l => InG W (V i) l ∧ (l.length : Int) ≤ 9223372036854775807) (fun i hi => open_inG (hx i (by omega)).2)
      obtain ⟨b, off, spot⟩ := a
      have hc0 := (hx 0 (by omega)).1
      have hspot : spot = none := by simpa [Addr.add] using World.cell?_spot hc0
      subst hspot
      have e : ∀ i, i < len → ((List.range len).map F).getD i [] = F i := fun i hi => by simp [hi]
      refine ⟨(List.range len).map F, .inr ⟨b, off, cap, by simpa using hcs, fun i hi => ?_⟩, by simp; omega, fun i hi => ?_⟩
      · have hi' : i < len := by simpa using hi
        rw [e i hi']
        refine ⟨V i, ?_, (hF i hi').1⟩
        have := (hx i (by omega)).1
        rwa [add_at] at this
      · have hi' : i < len := by simpa using hi
        rw [e i hi']
        exact (hF i hi').2
end

end Go.Proofs.Qxb6617321a
