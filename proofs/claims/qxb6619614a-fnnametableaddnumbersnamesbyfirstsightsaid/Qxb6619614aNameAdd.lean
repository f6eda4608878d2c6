/-
  The walk of add at a new name, with its map made or not yet made.
-/
import Derived.Test.Qxb6619614aNameWalks
import Derived.Maps.Own
import Derived.Deep.OwnRows
namespace Go.Proofs.Qxb6619614a
open Go.RowKit Go.Maps

set_option maxHeartbeats 1000000 in
theorem add_missB {w : World} {B M : Nat} {na : Option Addr} {nc : Nat} {ds : List ByteArray} {D : DataW Unit} (s : ByteArray) (h : Tab w B (.slice na ds.length nc) (.map (some M)) ds) (hown : w.ownsMap (H := Unit) Try.prog 9 (plainElem Try.prog 3) M ds.length D) (hD : MapOf D ds) (hBM : B < M) (hnM : (Value.slice na ds.length nc).ownBlock ≠ some M) (hs : s.size ≤ maxLen) (hit : ¬ ixN s ds < ds.length) (hn : (ds.length : Int) ≤ 1048576) :
    Calls Try.prog 18 #[.pointer (some ⟨B, 0, none⟩), .string s] w fun e w' => ∃ nv' mv', e = .returned (.int .i64 ds.length) ∧ Tab w' B nv' mv' (ds ++ [s]) ∧ Turn w w' B (.slice na ds.length nc) (.map (some M)) nv' mv' := by
  have hk : keyOf Try.prog 9 (.string s) = some (.string s.data.toList) := WideMaps.keyOf_string_mk Try.underlying9 hs
  obtain ⟨v, ps, hrun, hv⟩ := hown.look_ok keyLaw Try.underlying37 (zero3 w) (plainElem_int Try.underlying3 (by decide)) hk
  obtain ⟨c, rfl, hc, hwc⟩ := plainElem_int_inv Try.underlying3 hv
  rw [(hD.2 s).1] at hrun
  simp only [hit, decide_false] at hrun
  have hwf : (Lit.int .i64 (ds.length : Nat)).wf = true := WalkArith.wf_i64 (by omega)
  obtain ⟨w1, hst, hown1, hturn⟩ := hown.drew.store keyLaw Try.underlying37 (by unfold maxLen; omega) hk (plainElem_int (H := Unit) Try.underlying3 hwf)
  have hD1 := mapOf_put hD hit
  have c0 := h.c0
  have c1 := h.c1
  have e1 : w1.heap[B]? = w.heap[B]? := hturn.grown.block B h.lt (by simp; omega)
  have c0' : w1.cell? ⟨B, 0, none⟩ = some (.slice na ds.length nc) := (World.cell?_of_block (w := w) e1).trans h.c0
  have c1' : w1.cell? ⟨B, 1, none⟩ = some (.map (some M)) := (World.cell?_of_block (w := w) e1).trans h.c1
  have f0' : w1.frozen? ⟨B, 0, none⟩ = false := (World.frozen?_of_block (w := w) e1).trans h.f0
  have f1' : w1.frozen? ⟨B, 1, none⟩ = false := (World.frozen?_of_block (w := w) e1).trans h.f1
  have hrow1 : w1.ownsRow (B + 1) 9 1 (.slice na ds.length nc) ds.length (ds.map Value.string) := h.row.drew.kept hturn.grown (.inr hnM)
  have hs1 : w.heap.size ≤ w1.heap.size := hturn.grown.size
  have hg1 : w.grownBy w1 (some M) := ⟨hturn.grown.os, hturn.grown.tape, hturn.grown.output, hturn.grown.size, hturn.grown.block⟩
  have hlt := h.lt
  have keq := fun (w : World) => run_eql_map_nil (P := Try.prog) w 37 9 3 (some M) Try.underlying37
  obtain ⟨i0, hi, hz0, hz1, hz2⟩ := info_parts info9
  clear hv hc hwc hk hs hwf h hD
  go_enter Try.func18, Try.ntmps18
  go_wp2_with fail
  go_region
  go_wp2_with (first | (at_builtin; refine wpList_append_own_at _ rfl _ _ 30 rfl (B + 1) 9 i0 (.string ByteArray.empty) 1 16 Try.underlying30 hi hz0 hz1 hz2 rfl (by decide) _ _ _ rfl (hrow1.alloc _) ⟨w1.heap.size, 0, none⟩ 1 1 [.string s] rfl rfl (cell_one_new _ _ _) ?c2 ?c3 ?c4 ?c5 ?_))
  case c2 => intro u hu; simp at hu; subst hu; rfl
  case c3 => unfold maxLen; omega
  case c4 => omega
  case c5 => simp; omega
  intro v' w2 hown' hgrow _ hloc
  have hT := Tab.added hBM hnM hlt hown1 hD1 hrow1 hs1 c1' f0' f1' c0' hown' hgrow hloc
  have hTu : Turn w (w2.setCell ⟨B, 0, none⟩ v') B (.slice na ds.length nc) (.map (some M)) v' (.map (some M)) := Turn.added (w := w) (row1 := some M) hg1 (fun k _ e => .inr (by rw [e])) (.inr rfl) hgrow hloc
  have hBn : some B ≠ (Value.slice na ds.length nc).ownBlock := fun e => by have := (hrow1.lt B e.symm).1; omega
  have e2 : w2.heap[B]? = w1.heap[B]? := by
    rw [hgrow.block B (by simp; omega) hBn]
    exact Below.heap_alloc _ _ _ (by omega)
  have c2' : w2.cell? ⟨B, 0, none⟩ = some (.slice na ds.length nc) := (World.cell?_of_block (w := w1) e2).trans c0'
  have f2' : w2.frozen? ⟨B, 0, none⟩ = false := (World.frozen?_of_block (w := w1) e2).trans f0'
  obtain ⟨va, vc, hva⟩ := own_shape hown'
  rw [hva] at hT hTu ⊢
  clear hown' hgrow hloc hva hrow1 hown1 hD1 e2 hBn c0' c1' f0' f1' hnM hBM
  go_wp2_with fail
  go_ret
  exact ⟨_, _, ret_intN (by omega), hT, hTu⟩

set_option maxHeartbeats 1000000 in
theorem add_missA {w : World} {B : Nat} {na : Option Addr} {nc : Nat} (s : ByteArray) (h : Tab w B (.slice na 0 nc) (.map none) []) (hs : s.size ≤ maxLen) :
    Calls Try.prog 18 #[.pointer (some ⟨B, 0, none⟩), .string s] w fun e w' => ∃ nv' mv', e = .returned (.int .i64 0) ∧ Tab w' B nv' mv' [s] ∧ Turn w w' B (.slice na 0 nc) (.map none) nv' mv' := by
  have hk : keyOf Try.prog 9 (.string s) = some (.string s.data.toList) := WideMaps.keyOf_string_mk Try.underlying9 hs
  have hrun := Maps.look_nil (P := Try.prog) (w := w) true keyLaw Try.underlying37 (zero3 w) hk
  simp only [if_true] at hrun
  have hlt := h.lt
  have c0 := h.c0
  have c1 := h.c1
  have f0 := h.f0
  have f1 := h.f1
  have hBM : B < w.heap.size := hlt
  have hnM : (Value.slice na 0 nc).ownBlock ≠ some w.heap.size := fun e => by have := (h.row.lt _ e).2; omega
  have hown : ((w.setCell ⟨B, 1, none⟩ (.map (some w.heap.size))).alloc (.map #[] 0)).ownsMap (H := Unit) Try.prog 9 (plainElem Try.prog 3) w.heap.size 0 (.map []) := by
    have := World.ownsMap_made (H := Unit) (w.setCell ⟨B, 1, none⟩ (.map (some w.heap.size))) Try.prog 9 (plainElem Try.prog 3)
    rwa [Deep.nblk_setCell] at this
  have hwf : (Lit.int .i64 (0 : Int)).wf = true := by decide
  obtain ⟨w1, hst, hown1, hturn⟩ := hown.drew.store keyLaw Try.underlying37 (by unfold maxLen; omega) hk (plainElem_int (H := Unit) Try.underlying3 hwf)
  have hD1 : MapOf _ ([] ++ [s]) := mapOf_put (s := s) mapOf_empty (by simp)
  have g0 : w.grownBy ((w.setCell ⟨B, 1, none⟩ (.map (some w.heap.size))).alloc (.map #[] 0)) (some B) :=
    ⟨rfl, rfl, rfl, by simp [World.setCell], fun k hk hne => by
      rw [Below.heap_alloc _ _ _ (by rw [Deep.nblk_setCell]; exact hk)]
      exact Below.heap_setCell _ _ _ _ (fun e => hne (by rw [e]))⟩
  have gt := hturn.grown
  have e1 : w1.heap[B]? = (w.setCell ⟨B, 1, none⟩ (.map (some w.heap.size))).heap[B]? := by
    rw [gt.block B (by show B < _; simp [World.setCell]; omega) (by simp; omega)]
    exact Below.heap_alloc _ _ _ (by rw [Deep.nblk_setCell]; exact hlt)
  have b0 : (w.setCell ⟨B, 1, none⟩ (.map (some w.heap.size))).cell? ⟨B, 0, none⟩ = some (.slice na 0 nc) := by rw [World.cell?_setCell_other _ _ _ _ (by simp)]; exact c0
  have b1 : (w.setCell ⟨B, 1, none⟩ (.map (some w.heap.size))).cell? ⟨B, 1, none⟩ = some (.map (some w.heap.size)) := World.cell?_setCell_same _ _ _ c1
  have c0' : w1.cell? ⟨B, 0, none⟩ = some (.slice na 0 nc) := (World.cell?_of_block (a := ⟨B, 0, none⟩) e1).trans b0
  have c1' : w1.cell? ⟨B, 1, none⟩ = some (.map (some w.heap.size)) := (World.cell?_of_block (a := ⟨B, 1, none⟩) e1).trans b1
  have f0' : w1.frozen? ⟨B, 0, none⟩ = false := (World.frozen?_of_block (a := ⟨B, 0, none⟩) e1).trans ((World.frozen?_setCell _ _ _ _).trans f0)
  have f1' : w1.frozen? ⟨B, 1, none⟩ = false := (World.frozen?_of_block (a := ⟨B, 1, none⟩) e1).trans ((World.frozen?_setCell _ _ _ _).trans f1)
  have hBn0 : some B ≠ (Value.slice na 0 nc).ownBlock := fun e => by have := (h.row.lt B e.symm).1; omega
  have hg1 : w.grownBy w1 (some B) := ⟨gt.os, gt.tape, gt.output, Nat.le_trans g0.size gt.size, fun k hk hne => (gt.block k (Nat.lt_of_lt_of_le hk g0.size) (by simp; omega)).trans (g0.block k hk hne)⟩
  have hrow1 : w1.ownsRow (B + 1) 9 1 (.slice na 0 nc) ([] : List ByteArray).length (([] : List ByteArray).map Value.string) := h.row.kept hg1 (.inr (fun e => hBn0 e.symm))
  have hs1 : w.heap.size ≤ w1.heap.size := hg1.size
  have keq := fun (w : World) => run_eql_map_nil (P := Try.prog) w 37 9 3 none Try.underlying37
  have hmm := @run_makeMap Try.prog
  obtain ⟨i0, hi, hz0, hz1, hz2⟩ := info_parts info9
  clear hk hs hwf h hown g0 gt e1
  go_enter Try.func18, Try.ntmps18
  go_wp2_with fail
  go_region
  go_wp2_with (first | (at_builtin; refine wpList_append_own_at _ rfl _ _ 30 rfl (B + 1) 9 i0 (.string ByteArray.empty) 1 16 Try.underlying30 hi hz0 hz1 hz2 rfl (by decide) _ _ _ rfl (hrow1.alloc _) ⟨w1.heap.size, 0, none⟩ 1 1 [.string s] rfl rfl (cell_one_new _ _ _) ?c2 ?c3 ?c4 ?c5 ?_))
  case c2 => intro u hu; simp at hu; subst hu; rfl
  case c3 => simp [maxLen]
  case c4 => simp
  case c5 => simp; omega
  intro v' w2 hown' hgrow _ hloc
  have hT := Tab.added hBM hnM hlt hown1 hD1 hrow1 hs1 c1' f0' f1' c0' hown' hgrow hloc
  have hTu : Turn w (w2.setCell ⟨B, 0, none⟩ v') B (.slice na 0 nc) (.map none) v' (.map (some w.heap.size)) := Turn.added (w := w) (row1 := some B) hg1 (fun k _ e => .inl (by simpa using e.symm)) (.inl (Nat.le_refl _)) hgrow hloc
  have hBn : some B ≠ (Value.slice na 0 nc).ownBlock := fun e => by have := (hrow1.lt B e.symm).1; omega
  have e2 : w2.heap[B]? = w1.heap[B]? := by
    rw [hgrow.block B (by simp; omega) hBn]
    exact Below.heap_alloc _ _ _ (by omega)
  have c2' : w2.cell? ⟨B, 0, none⟩ = some (.slice na 0 nc) := (World.cell?_of_block (w := w1) e2).trans c0'
  have f2' : w2.frozen? ⟨B, 0, none⟩ = false := (World.frozen?_of_block (w := w1) e2).trans f0'
  obtain ⟨va, vc, hva⟩ := own_shape hown'
  rw [hva] at hT hTu ⊢
  clear hown' hgrow hloc hva hrow1 hown1 hD1 e2 hBn c0' c1' f0' f1' hnM hBM
  go_wp2_with fail
  go_ret
  exact ⟨_, _, rfl, hT, hTu⟩

/-- 'add' at a new name: the next place. -/
theorem add_miss {w : World} {B : Nat} {nv mv : Value} {ds : List ByteArray} (s : ByteArray) (h : Tab w B nv mv ds) (hs : s.size ≤ maxLen) (hit : ¬ ixN s ds < ds.length) (hn : (ds.length : Int) ≤ 1048576) :
    Calls Try.prog 18 #[.pointer (some ⟨B, 0, none⟩), .string s] w fun e w' => ∃ nv' mv', e = .returned (.int .i64 ds.length) ∧ Tab w' B nv' mv' (ds ++ [s]) ∧ Turn w w' B nv mv nv' mv' := by
  obtain ⟨na, nc, rfl⟩ := own_shape h.row
  rcases h.map with ⟨rfl, rfl⟩ | ⟨M, D, rfl, hBM, hnM, hown, hD⟩
  · exact add_missA s h hs
  · exact add_missB s h hown hD hBM hnM hs hit hn

set_option maxHeartbeats 400000 in
theorem zadd_miss {w : World} {B : Nat} {nv mv : Value} {ds : List ByteArray} (s : ByteArray) (h : Tab w B nv mv ds) (hs : s.size ≤ maxLen) (hit : ¬ ixN s ds < ds.length) (hn : (ds.length : Int) ≤ 1048576) :
    Calls Try.prog 14 #[.pointer (some ⟨B, 0, none⟩), .string s] w fun e w' => ∃ nv' mv', e = .returned (.int .i64 ds.length) ∧ Tab w' B nv' mv' (ds ++ [s]) ∧ Turn w w' B nv mv nv' mv' := by
  have H : Hid (Tab w B nv mv ds) := h
  clear h
  go_enter Try.func14, Try.ntmps14
  go_wp2_with fail
  refine (add_miss s H.out hs hit hn).mono ?_
  rintro e w' ⟨nv', mv', rfl, hT, hTu⟩
  go_wp2_with fail
  go_ret
  exact ⟨nv', mv', rfl, hT, hTu⟩

end Go.Proofs.Qxb6619614a
