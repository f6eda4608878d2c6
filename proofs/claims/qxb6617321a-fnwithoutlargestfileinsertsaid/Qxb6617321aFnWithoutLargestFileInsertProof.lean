/-
  The law on a group put into a list: the row out of the walk 'insert_law'. The frame is turned from proof-skeleton.mjs's to slices of slices of structs.
-/
import Derived.Test.Qxb6617321aRows
import Derived.Test.Qxb6617321aOpen
import Derived.Test.Qxb6617321aInsertLaw
import Derived.WalkKit
import Derived.ProofKit
import Derived.OpenShut
import Derived.ShutString
import Derived.ChangeOld
import Derived.Below
namespace Go.Proofs.Qxb6617321a.fnWithoutLargestFileInsert
open Go.ChangeShapes Go.WideShapes Go.ChangeAt Go.RowKit
set_option linter.unusedVariables false

theorem own : ownKnob Try.prog.godebug = none := by kernel_rfl
theorem laidOut : laidOutB Try.prog = true := by kernel_rfl

theorem walk (v0 : Value) (p : Int) (v2 : Value) (lx : List (List Row)) (lh : List Row) (w : World) (hA : InR w v0 lx) (hB : InG w v2 lh) (ma : (lx.length : Int) ≤ 9223372036854775807) (msa : ∀ i, i < lx.length → ((lx.getD i []).length : Int) ≤ 9223372036854775807) (mb : (lh.length : Int) ≤ 9223372036854775807) :
    Calls Try.prog 4 #[v0, .int .i64 p, v2] w fun e w' => e = .returned (.bool true) ∧ Below w.heap.size w w' := by
  obtain ⟨a, c, rfl⟩ := hA.shape
  obtain ⟨a', c', rfl⟩ := hB.shape
  exact insert_law a lx.length c lx p a' lh.length c' lh w hA hB rfl ma msa mb

/-! ### THE ROW's STEP -/
set_option maxRecDepth 100000 in
theorem lifted (os : Os) (started : os.Started) (H : Type) (enc : TypeId × Value → H) :
    ReturnsInHanded {} Try.checked os 4 .any (Rows.fnWithoutLargestFileInsertSpec.pre6 enc Try.prog Try.f4 Rows.fnWithoutLargestFileInsertRow.domain false) (Rows.fnWithoutLargestFileInsertSpec.post enc Try.prog Try.f4 false true false false) := by
  refine returnsInHanded_of_change (C := Try.checked) own started (by kernel_rfl) Try.func4
    (ChangeSpec.witness6 (enc := enc) (C := Try.checked) false ⟨#[], #[.slice none 0 0, .int .i64 0, .slice none 0 0], []⟩ 8 (by kernel_rfl) (by kernel_rfl) (by kernel_rfl) (by kernel_rfl)) ?_
  intro W base args ds gs before hval0 hW hcnd _
  have hval : ∀ (j : Nat) t v, Try.f4.params[j]? = some t → args[j]? = some v → Value.okWide Try.prog W .any base t v := hval0
  have hW' := hW
  obtain ⟨p, q, hA0, hV, rfl, hfz, hnd⟩ := hW
  have hA : DataW.TrodAll enc Try.prog W 0 (fun _ => true) true Try.f4.params.toList args.toList ds p := hA0
  rw [Try.params4] at hA hval
  obtain ⟨v0, vs0, d0, ds0, p0, q0, hargs, rfl, rfl, h0, r0⟩ := trodAll_cons hA
  obtain ⟨v1, vs1, d1, ds1, p1, q1, rfl, rfl, rfl, h1, r1⟩ := trodAll_cons r0
  obtain ⟨v2, vs2, d2, ds2, p2, q2, rfl, rfl, rfl, h2, r2⟩ := trodAll_cons r1
  obtain ⟨rfl, rfl, rfl⟩ := trodAll_nil r2
  obtain rfl : args = #[v0, v1, v2] := by cases args; simp_all
  obtain ⟨rfl, rfl⟩ := trodVars_none hV
  have k0 := h0
  have k2 := h2
  have lt0 : ∀ x ∈ p0, x.block < W.heap.size := by obtain ⟨m, hm⟩ := k0; exact DataW.trod_lt m _ _ _ hm
  have lt2 : ∀ x ∈ p2, x.block < W.heap.size := by obtain ⟨m, hm⟩ := k2; exact DataW.trod_lt m _ _ _ hm
  obtain ⟨a0, len0, cap0, hv0⟩ := okWide_slice Try.underlying22 (hval 0 22 v0 rfl rfl)
  obtain ⟨a2, len2, cap2, hv2⟩ := okWide_slice Try.underlying33 (hval 2 33 v2 rfl rfl)
  obtain ⟨lx, w0, ma, msa⟩ : ∃ ls : List (List Row), InR W v0 ls ∧ (ls.length : Int) ≤ 9223372036854775807 ∧ ∀ i, i < ls.length → ((ls.getD i []).length : Int) ≤ 9223372036854775807 := by
    obtain ⟨fuel, hf⟩ := h0
    refine open_inR (enc := enc) (base := 0) (spare := fun _ => true) (held := true) (fuel := fuel) (x := (d0, p0)) ?_
    rw [hv0] at hf ⊢
    exact hf
  obtain ⟨lh, w2, mb⟩ : ∃ l : List Row, InG W v2 l ∧ (l.length : Int) ≤ 9223372036854775807 := by
    obtain ⟨fuel, hf⟩ := h2
    refine open_inG (enc := enc) (base := 0) (spare := fun _ => true) (held := true) (fuel := fuel) (x := (d2, p2)) ?_
    rw [hv2] at hf ⊢
    exact hf
  obtain ⟨a1, rfl, rfl, rfl, w1⟩ := open_int Try.underlying3 (hval 1 3 v1 rfl rfl) h1
  clear hA0 hval0
  refine (walk v0 a1 v2 lx lh W w0 w2 ma msa mb).mono fun e W' ⟨he, bel⟩ => ?_
  subst he
  exact ⟨_, rfl, _, _, _, [], _, [], hW', trodAll_mk1 (shut_bool Try.underlying4 _), (trodAll_cons_mk (Below.trod laidOut (by kernel_rfl) (of_decide_eq_true (by kernel_rfl)) k0 bel lt0) (trodAll_cons_mk (shut_int Try.underlying3 w1) (trodAll_cons_mk (Below.trod laidOut (by kernel_rfl) (of_decide_eq_true (by kernel_rfl)) k2 bel lt2) trodAll_mk0))), rfl, bel.frame _, fun h => by cases h⟩

theorem over : Rows.fnWithoutLargestFileInsertRow.holds Try.pinned (OpenSpec.ofChange Rows.fnWithoutLargestFileInsertSpec) :=
  OpenClaim.holds_of_wide 4 Try.f4 rfl rfl rfl rfl rfl rfl rfl ⟨rfl, rfl, rfl, rfl, rfl⟩ rfl rfl rfl rfl rfl (by kernel_rfl) Try.func4 (by kernel_rfl)
    (of_decide_eq_true (by kernel_rfl)) (by unfold Func.isWrapper; first | (rw [if_pos (by decide +kernel)]; kernel_rfl) | (rw [if_neg (by decide +kernel)]; exact ⟨rfl, rfl⟩))
    (fun os started H enc _ => lifted os started H enc)

/-- ████ THE STATEMENT ████ -/
theorem proved : Rows.FnWithoutLargestFileInsertSaid := over
#print axioms proved
end Go.Proofs.Qxb6617321a.fnWithoutLargestFileInsert
