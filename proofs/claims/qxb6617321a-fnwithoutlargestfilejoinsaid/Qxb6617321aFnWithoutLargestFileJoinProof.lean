/-
  The law on two lists of groups: the row out of the walk 'join_law'. The frame is turned from proof-skeleton.mjs's to slices of slices of structs.
-/
import Derived.Test.Qxb6617321aRows
import Derived.Test.Qxb6617321aOpen
import Derived.Test.Qxb6617321aJoinLaw
import Derived.WalkKit
import Derived.ProofKit
import Derived.OpenShut
import Derived.ShutString
import Derived.ChangeOld
import Derived.Below
namespace Go.Proofs.Qxb6617321a.fnWithoutLargestFileJoin
open Go.ChangeShapes Go.WideShapes Go.ChangeAt Go.RowKit
set_option linter.unusedVariables false

theorem own : ownKnob Try.prog.godebug = none := by kernel_rfl
theorem laidOut : laidOutB Try.prog = true := by kernel_rfl

theorem walk (v0 v1 : Value) (la lb : List (List Row)) (w : World) (hA : InR w v0 la) (hB : InR w v1 lb) (ma : (la.length : Int) ≤ 9223372036854775807) (msa : ∀ i, i < la.length → ((la.getD i []).length : Int) ≤ 9223372036854775807) (mb : (lb.length : Int) ≤ 9223372036854775807) (msb : ∀ i, i < lb.length → ((lb.getD i []).length : Int) ≤ 9223372036854775807) :
    Calls Try.prog 3 #[v0, v1] w fun e w' => e = .returned (.bool true) ∧ Below w.heap.size w w' := by
  obtain ⟨a, c, rfl⟩ := hA.shape
  obtain ⟨a', c', rfl⟩ := hB.shape
  exact join_law a la.length c la a' lb.length c' lb w hA hB rfl rfl ma msa mb msb

/-! ### THE ROW's STEP -/
set_option maxRecDepth 100000 in
theorem lifted (os : Os) (started : os.Started) (H : Type) (enc : TypeId × Value → H) :
    ReturnsInHanded {} Try.checked os 3 .any (Rows.fnWithoutLargestFileJoinSpec.pre6 enc Try.prog Try.f3 Rows.fnWithoutLargestFileJoinRow.domain false) (Rows.fnWithoutLargestFileJoinSpec.post enc Try.prog Try.f3 false true false false) := by
  refine returnsInHanded_of_change (C := Try.checked) own started (by kernel_rfl) Try.func3
    (ChangeSpec.witness6 (enc := enc) (C := Try.checked) false ⟨#[], #[.slice none 0 0, .slice none 0 0], []⟩ 8 (by kernel_rfl) (by kernel_rfl) (by kernel_rfl) (by kernel_rfl)) ?_
  intro W base args ds gs before hval0 hW hcnd _
  have hval : ∀ (j : Nat) t v, Try.f3.params[j]? = some t → args[j]? = some v → Value.okWide Try.prog W .any base t v := hval0
  have hW' := hW
  obtain ⟨p, q, hA0, hV, rfl, hfz, hnd⟩ := hW
  have hA : DataW.TrodAll enc Try.prog W 0 (fun _ => true) true Try.f3.params.toList args.toList ds p := hA0
  rw [Try.params3] at hA hval
  obtain ⟨v0, vs0, d0, ds0, p0, q0, hargs, rfl, rfl, h0, r0⟩ := trodAll_cons hA
  obtain ⟨v1, vs1, d1, ds1, p1, q1, rfl, rfl, rfl, h1, r1⟩ := trodAll_cons r0
  obtain ⟨rfl, rfl, rfl⟩ := trodAll_nil r1
  obtain rfl : args = #[v0, v1] := by cases args; simp_all
  obtain ⟨rfl, rfl⟩ := trodVars_none hV
  have k0 := h0
  have k1 := h1
  have lt0 : ∀ x ∈ p0, x.block < W.heap.size := by obtain ⟨m, hm⟩ := k0; exact DataW.trod_lt m _ _ _ hm
  have lt1 : ∀ x ∈ p1, x.block < W.heap.size := by obtain ⟨m, hm⟩ := k1; exact DataW.trod_lt m _ _ _ hm
  obtain ⟨a0, len0, cap0, hv0⟩ := okWide_slice Try.underlying22 (hval 0 22 v0 rfl rfl)
  obtain ⟨a1, len1, cap1, hv1⟩ := okWide_slice Try.underlying22 (hval 1 22 v1 rfl rfl)
  obtain ⟨la, w0, ma, msa⟩ : ∃ ls : List (List Row), InR W v0 ls ∧ (ls.length : Int) ≤ 9223372036854775807 ∧ ∀ i, i < ls.length → ((ls.getD i []).length : Int) ≤ 9223372036854775807 := by
    obtain ⟨fuel, hf⟩ := h0
    refine open_inR (enc := enc) (base := 0) (spare := fun _ => true) (held := true) (fuel := fuel) (x := (d0, p0)) ?_
    rw [hv0] at hf ⊢
    exact hf
  obtain ⟨lb, w1, mb, msb⟩ : ∃ ls : List (List Row), InR W v1 ls ∧ (ls.length : Int) ≤ 9223372036854775807 ∧ ∀ i, i < ls.length → ((ls.getD i []).length : Int) ≤ 9223372036854775807 := by
    obtain ⟨fuel, hf⟩ := h1
    refine open_inR (enc := enc) (base := 0) (spare := fun _ => true) (held := true) (fuel := fuel) (x := (d1, p1)) ?_
    rw [hv1] at hf ⊢
    exact hf
  clear hA0 hval0
  refine (walk v0 v1 la lb W w0 w1 ma msa mb msb).mono fun e W' ⟨he, bel⟩ => ?_
  subst he
  exact ⟨_, rfl, _, _, _, [], _, [], hW', trodAll_mk1 (shut_bool Try.underlying4 _), (trodAll_cons_mk (Below.trod laidOut (by kernel_rfl) (of_decide_eq_true (by kernel_rfl)) k0 bel lt0) (trodAll_cons_mk (Below.trod laidOut (by kernel_rfl) (of_decide_eq_true (by kernel_rfl)) k1 bel lt1) trodAll_mk0)), rfl, bel.frame _, fun h => by cases h⟩

theorem over : Rows.fnWithoutLargestFileJoinRow.holds Try.pinned (OpenSpec.ofChange Rows.fnWithoutLargestFileJoinSpec) :=
  OpenClaim.holds_of_wide 3 Try.f3 rfl rfl rfl rfl rfl rfl rfl ⟨rfl, rfl, rfl, rfl, rfl⟩ rfl rfl rfl rfl rfl (by kernel_rfl) Try.func3 (by kernel_rfl)
    (of_decide_eq_true (by kernel_rfl)) (by unfold Func.isWrapper; first | (rw [if_pos (by decide +kernel)]; kernel_rfl) | (rw [if_neg (by decide +kernel)]; exact ⟨rfl, rfl⟩))
    (fun os started H enc _ => lifted os started H enc)

/-- ████ THE STATEMENT ████ -/
theorem proved : Rows.FnWithoutLargestFileJoinSaid := over
#print axioms proved
end Go.Proofs.Qxb6617321a.fnWithoutLargestFileJoin
