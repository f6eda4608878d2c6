/-
  The walk of zzBuildGroup: a fresh row of pointers, each to a fresh file that holds what the row of that place held.
-/
import Derived.Test.Qxb6617321aBytes
import Derived.BigRegion
namespace Go.Proofs.Qxb6617321a
open Go.RowKit

theorem info42 : (Try.prog.info? 42).map (fun i => (i.zero, i.size, i.bytes)) = some (some (.pointer none), 1, 8) := by kernel_rfl

/-- What holds behind k rounds: the row of pointers in block w.heap.size, the files behind it. -/
structure Building (w wr : World) (n k : Nat) (l : List Row) : Prop where
  row : wr.rowIs w.heap.size 42 n (fun j => if j < k then .pointer (some ⟨w.heap.size + 1 + j, 0, none⟩) else .pointer none)
  size : wr.heap.size = w.heap.size + 1 + k
  files : ∀ j, j < k → FileAt wr (w.heap.size + 1 + j) (rowAt l j)
  below : Below w.heap.size w wr

theorem Building.start (w : World) (n : Nat) (l : List Row) : Building w (w.alloc (.cells (madeCells #[.pointer none] n) 42)) n 0 l :=
  ⟨(World.rowIs_made _ _ _ _).congr (fun i hi => by simp), by simp, fun j hj => by omega, (Below.refl _ _).alloc (Nat.le_refl _) _⟩

theorem Building.step {w wr : World} {n k : Nat} {l : List Row} (h : Building w wr n k l) (_hk : k < n) (cs : Array Value) (t : TypeId) (h4 : cs[4]? = some (.int .i64 (rowAt l k).a)) (h5 : cs[5]? = some (.int .i64 (rowAt l k).d)) (h10 : cs[10]? = some (.string (rowAt l k).t)) :
    Building w ((wr.setCell ⟨w.heap.size, k, none⟩ (.pointer (some ⟨wr.heap.size, 0, none⟩))).alloc (.cells cs t)).drew n (k + 1) l := by
  have hs := h.size
  have hsz : (wr.setCell ⟨w.heap.size, k, none⟩ (.pointer (some ⟨wr.heap.size, 0, none⟩))).heap.size = wr.heap.size := Deep.nblk_setCell _ _ _
  refine ⟨?_, ?_, ?_, ?_⟩
  · refine (((h.row.set k (.pointer (some ⟨wr.heap.size, 0, none⟩))).alloc _).drew).congr (fun i hi => ?_)
    by_cases e : i = k
    · subst e; simp [hs]
    · simp only [e, if_false]
      by_cases e2 : i < k
      · rw [if_pos e2, if_pos (by omega)]
      · rw [if_neg e2, if_neg (by omega)]
  · show ((wr.setCell _ _).alloc _).heap.size = _
    rw [Deep.nblk_alloc, hsz]; omega
  · intro j hj
    by_cases e : j = k
    · subst e
      refine ⟨?_, ?_, ?_⟩
      · exact (World.cell?_alloc_at cs t _ 4 (by rw [hsz, hs])).trans h4
      · exact (World.cell?_alloc_at cs t _ 5 (by rw [hsz, hs])).trans h5
      · exact (World.cell?_alloc_at cs t _ 10 (by rw [hsz, hs])).trans h10
    · have hf := h.files j (by omega)
      have keep : ∀ o, ((wr.setCell ⟨w.heap.size, k, none⟩ (.pointer (some ⟨wr.heap.size, 0, none⟩))).alloc (.cells cs t)).drew.cell? ⟨w.heap.size + 1 + j, o, none⟩ = wr.cell? ⟨w.heap.size + 1 + j, o, none⟩ := fun o => by
        show ((wr.setCell _ _).alloc _).cell? _ = _
        rw [World.cell?_alloc_lt _ _ _ (by rw [hsz]; show w.heap.size + 1 + j < _; omega), World.cell?_setCell_other _ _ _ _ (by intro q; injection q with q; omega)]
      exact ⟨(keep 4).trans hf.1, (keep 5).trans hf.2.1, (keep 10).trans hf.2.2⟩
  · refine ((h.below.setCell (Nat.le_refl _) _).alloc ?_ _).drew
    rw [hsz]; omega

theorem Building.grp {w wr : World} {l : List Row} (h : Building w wr l.length l.length l) : Grp wr (.slice (some ⟨w.heap.size, 0, none⟩) l.length l.length) l :=
  .inr ⟨_, rfl, fun k hk => ⟨w.heap.size + 1 + k, by have := h.row.cell hk; rwa [if_pos hk] at this, h.files k hk⟩⟩

set_option maxRecDepth 100000 in
set_option maxHeartbeats 2000000 in
theorem buildG_row (x : Addr) (n c : Nat) (l : List Row) (w : World) (hn : (n : Int) ≤ 1048576) (hG : InG w (.slice (some x) n c) l) :
    Calls Try.prog 15 #[.slice (some x) n c] w fun e w' => e = .returned (.slice (some ⟨w.heap.size, 0, none⟩) n n) ∧ Building w w' n n l := by
  have HG := hideN hG
  clear hG
  have kn := fun (w : World) => Lib.run_eql_slice_nil (P := Try.prog) w 33 40 (some x) n c 0 0 Try.underlying33
  have hmk := run_make_row' (P := Try.prog) 32 42 (.pointer none) 8 Try.underlying32 info42 rfl .i64 .i64 n (by omega) (by omega)
  go_enter Try.func15, Try.ntmps15
  go_wp2
  go_loopw [12] (fun v wr => ∃ k : Nat, k ≤ n ∧ v = .int .i64 k ∧ Building w wr n k l) (fun v _ => n - (intOf v).toNat)
  case atStart => exact ⟨0, by omega, rfl, Building.start w n l⟩
  case round =>
    obtain ⟨k, hk, rfl, hB⟩ := hrel
    by_cases hlt : k < n
    · obtain ⟨b, off, hx, c0, c1, c2⟩ := HG.out.at hlt
      simp only [Option.some.injEq] at hx
      subst hx
      have HB := hideN hB
      have HE : Hid (rowAt l k = rowAt l k) := rfl
      obtain ⟨r, hr⟩ : ∃ r, r = rowAt l k := ⟨_, rfl⟩
      have HRR := hideN hr
      rw [← hr] at c0 c1 c2
      have c0' := keep_cell hB.below c0
      have c1' := keep_cell hB.below c1
      have c2' := keep_cell hB.below c2
      have hcg := hB.row.cell hlt
      rw [if_neg (by omega)] at hcg
      have hfg := hB.row.frozen k
      have hkn : (k : Int) < (n : Int) := by omega
      have hgl : w.heap.size < wr.heap.size := by have := hB.size; omega
      clear c0 c1 c2 hr HE hB
      go_wp2_with fail
      go_region
      go_wp2_with fail
      go_roundw
      case rel => exact ⟨k + 1, by omega, by go_num, HB.out.step hlt _ _ (by rw [← HRR.out]; rfl) (by rw [← HRR.out]; rfl) (by rw [← HRR.out]; rfl)⟩
      case measure => simp [intOf]; omega
    · obtain rfl : k = n := by omega
      have HB := hideN hB
      clear hB
      go_wp2_with fail
      go_ret
      exact ⟨rfl, HB.out⟩

set_option maxHeartbeats 400000 in
theorem buildG_nil (w : World) :
    Calls Try.prog 15 #[.slice none 0 0] w fun e w' => e = .returned (.slice none 0 0) ∧ w' = w := by
  have kn := fun (w : World) => Lib.run_eql_slice_nil (P := Try.prog) w 33 40 none 0 0 0 0 Try.underlying33
  go_enter Try.func15, Try.ntmps15
  go_wp2
  go_ret
  exact ⟨rfl, rfl⟩

/-- zzBuildGroup: a group built out of the rows; nothing that was there has turned. -/
theorem buildG_any {v : Value} {l : List Row} {w : World} (h : InG w v l) (hl : (l.length : Int) ≤ 1048576) :
    Calls Try.prog 15 #[v] w fun e w' => ∃ v', e = .returned v' ∧ Grp w' v' l ∧ Below w.heap.size w w' := by
  have h' := h
  rcases h with ⟨rfl, rfl⟩ | ⟨x, c, rfl, rfl⟩ | ⟨b, off, c, rfl, h⟩
  · refine (buildG_nil w).mono ?_
    rintro e w' ⟨rfl, rfl⟩
    exact ⟨_, rfl, .inl ⟨rfl, rfl⟩, Below.refl _ _⟩
  · refine (buildG_row x 0 c [] w (by omega) h').mono ?_
    rintro e w' ⟨rfl, hB⟩
    exact ⟨_, rfl, Building.grp (l := []) hB, hB.below⟩
  · refine (buildG_row ⟨b, off, none⟩ l.length c l w hl h').mono ?_
    rintro e w' ⟨rfl, hB⟩
    exact ⟨_, rfl, hB.grp, hB.below⟩

end Go.Proofs.Qxb6617321a
