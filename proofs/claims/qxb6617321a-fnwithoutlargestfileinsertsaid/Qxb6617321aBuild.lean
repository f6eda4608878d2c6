/-
  The walk of zzBuild: a fresh slice of fresh groups.
-/
import Derived.Test.Qxb6617321aBuildG
namespace Go.Proofs.Qxb6617321a
open Go.RowKit

theorem info32 : (Try.prog.info? 32).map (fun i => (i.zero, i.size, i.bytes)) = some (some (.slice none 0 0), 1, 24) := by kernel_rfl

/-- A store into a cell that holds a slice leaves every cell that holds none. -/
theorem keep_set {w : World} {a p : Addr} {x : Option Addr} {n c : Nat} {u v : Value} (hc : w.cell? a = some (.slice x n c)) (h : w.cell? p = some v) (hv : ∀ x n c, v ≠ .slice x n c) : (w.setCell a u).cell? p = some v := by
  rw [World.cell?_setCell_other _ _ _ _ (fun e => by rw [e, h] at hc; injection hc with hc; exact hv _ _ _ hc)]
  exact h

theorem Grp.set {w : World} {a : Addr} {x : Option Addr} {n c : Nat} {u v : Value} {l : List Row} (h : Grp w v l) (hc : w.cell? a = some (.slice x n c)) : Grp (w.setCell a u) v l := by
  rcases h with h | ⟨g, e, h⟩
  · exact .inl h
  · refine .inr ⟨g, e, fun k hk => ?_⟩
    obtain ⟨pb, h1, h2, h3, h4⟩ := h k hk
    exact ⟨pb, keep_set hc h1 (by simp), keep_set hc h2 (by simp), keep_set hc h3 (by simp), keep_set hc h4 (by simp)⟩

/-- What holds behind k rounds. -/
structure Builds (w wr : World) (n : Nat) (vs : List Value) (ls : List (List Row)) : Prop where
  row : wr.rowIs w.heap.size 32 n (fun j => vs.getD j (.slice none 0 0))
  grps : ∀ j, j < vs.length → Grp wr (vs.getD j nilV) (ls.getD j [])
  below : Below w.heap.size w wr
  lt : w.heap.size < wr.heap.size

theorem Builds.start (w : World) (n : Nat) (ls : List (List Row)) : Builds w (w.alloc (.cells (madeCells #[.slice none 0 0] n) 32)) n [] ls :=
  ⟨(World.rowIs_made _ _ _ _).congr (fun i hi => by simp), fun j hj => by simp at hj, (Below.refl _ _).alloc (Nat.le_refl _) _, by simp⟩

/-- The row stays while new blocks are made. -/
theorem Builds.row_later {w wr w1 : World} {n : Nat} {vs : List Value} {ls : List (List Row)} (h : Builds w wr n vs ls) (hb : Below wr.heap.size wr w1) : w1.rowIs w.heap.size 32 n (fun j => vs.getD j (.slice none 0 0)) :=
  h.row.of_block (hb.block _ h.lt)

theorem Builds.step {w wr w1 : World} {n : Nat} {vs : List Value} {ls : List (List Row)} {v : Value} (h : Builds w wr n vs ls) (hk : vs.length < n) (hb : Below wr.heap.size wr w1) (hG : Grp w1 v (ls.getD vs.length [])) :
    Builds w (w1.setCell ⟨w.heap.size, vs.length, none⟩ v) n (vs ++ [v]) ls := by
  have hr := h.row_later hb
  have hc : w1.cell? ⟨w.heap.size, vs.length, none⟩ = some (.slice none 0 0) := by
    have := hr.cell hk
    simpa using this
  refine ⟨(hr.set vs.length v).congr (fun i hi => ?_), fun j hj => ?_, ?_, ?_⟩
  · by_cases e : i = vs.length
    · subst e; simp
    · simp only [e, if_false]
      by_cases e2 : i < vs.length
      · simp [List.getElem?_append_left e2]
      · rw [List.getD_eq_getElem?_getD, List.getD_eq_getElem?_getD, List.getElem?_eq_none (by omega), List.getElem?_eq_none (by simp; omega)]
  · simp at hj
    by_cases e : j = vs.length
    · subst e
      have : (vs ++ [v]).getD vs.length nilV = v := by simp
      rw [this]
      exact hG.set hc
    · have : (vs ++ [v]).getD j nilV = vs.getD j nilV := by simp [List.getElem?_append_left (show j < vs.length by omega)]
      rw [this]
      exact ((h.grps j (by omega)).below hb).set hc
  · exact (h.below.trans (hb.mono (by have := h.lt; omega))).setCell (Nat.le_refl _) _
  · have := h.lt
    have := hb.size
    rw [Deep.nblk_setCell]
    omega

set_option maxRecDepth 100000 in
set_option maxHeartbeats 2000000 in
theorem build_any (a : Option Addr) (n c : Nat) (ls : List (List Row)) (w : World) (hn : n = ls.length) (hF : Fits ls) (hR : InR w (.slice a n c) ls) :
    Calls Try.prog 7 #[.slice a n c] w fun e w' => ∃ vs : List Value, vs.length = n ∧ e = .returned (.slice (some ⟨w.heap.size, 0, none⟩) n n) ∧ Builds w w' n vs ls := by
  have HR := hideN hR
  have HF := hideN hF
  have hn1 : (n : Int) ≤ 1048576 := by rw [hn]; exact hF.1
  have HN := hideN hn
  clear hR hF hn
  have hmk := run_make_row' (P := Try.prog) 25 32 (.slice none 0 0) 24 Try.underlying25 info32 rfl .i64 .i64 n (by omega) (by omega)
  go_enter Try.func7, Try.ntmps7
  go_wp2
  go_loopw [10] (fun v wr => ∃ (k : Nat) (vs : List Value), k ≤ n ∧ Hid (vs.length = k) ∧ v = .int .i64 k ∧ Builds w wr n vs ls) (fun v _ => n - (intOf v).toNat)
  case atStart => exact ⟨0, [], by omega, rfl, rfl, Builds.start w n ls⟩
  case round =>
    obtain ⟨k, vs, hk, HV, rfl, hB⟩ := hrel
    by_cases hlt : k < n
    · obtain ⟨b, off, ua, m, uc, l, rfl, c0, hG, hl⟩ := HR.out.at hlt
      have HB := hideN hB
      have hml : (l.length : Int) ≤ 1048576 := by rw [hl]; exact HF.out.2 k (by rw [← HN.out]; exact hlt)
      have HL := hideN hl
      have HG := hideN (hG.below (hB.below.mono (Nat.le_refl _)))
      have c0' := keep_cell hB.below c0
      have hkn : (k : Int) < (n : Int) := by omega
      clear c0 hG hB hl
      go_wp2_with fail
      refine (buildG_any HG.out hml).mono ?_
      rintro e w1 ⟨v', rfl, hG1, hb1⟩
      have hc1 : w1.cell? ⟨w.heap.size, k, none⟩ = some (.slice none 0 0) := by
        have := (HB.out.row_later hb1).cell hlt
        rw [this]
        simp [HV.out]
      have hf1 : w1.frozen? ⟨w.heap.size, k, none⟩ = false := (HB.out.row_later hb1).frozen k
      have HS : Hid (Builds w (w1.setCell ⟨w.heap.size, k, none⟩ v') n (vs ++ [v']) ls) := by
        have e := HV.out
        have := HB.out.step (v := v') (by omega) hb1 (by rw [e, ← HL.out]; exact hG1)
        rw [e] at this
        exact this
      obtain ⟨va, vc, hv⟩ := hG1.shape
      rw [hv] at HS ⊢
      clear hG1 hb1 hv
      go_wp2_with fail
      go_roundw
      case rel => exact ⟨k + 1, _, by omega, (by have := HV.out; show (vs ++ _).length = k + 1; simp [this]), by go_num, HS.out⟩
      case measure => simp [intOf]; omega
    · obtain rfl : k = n := by omega
      have HB := hideN hB
      clear hB
      go_wp2_with fail
      go_ret
      exact ⟨vs, HV.out, rfl, HB.out⟩

end Go.Proofs.Qxb6617321a
