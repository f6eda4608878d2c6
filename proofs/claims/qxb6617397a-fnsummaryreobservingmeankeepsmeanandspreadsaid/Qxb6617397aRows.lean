/-
  No cell of these rows narrows 'for every input' (looked for: loops, veiled, ifaces, maps, wideKeys, modest, calm, conditions, laid).
  DERIVED. THE GIVEN ROWS OF THIS SEAT. 3 by the template 'for every input the law returns true; each argument reads behind the call as it read before'; 0 by the template 'total and deterministic' (their statements: Qxb6617397aTotals.lean).
  GIVEN WITH THE SEED: the statements are not yours to turn. If you find one false, say at which input.
  Laid BY PROGRAM, IN A SANDBOX (cutbox-rows.mjs): the forced cells as the released guide's own fill.sh prints them over the translation 527b730b6a620d89… (all of the seat's roots in one cut). By AI agents, Wed Nov 11 2026. No macro, syntax, notation, axiom, sorry.
-/
import Derived.Test.Qxb6617397aChecked
import GoSem.Claim
import GoSem.ClaimJoined
import GoSem.ClaimMapViews
import Derived.JoinedTies
import Derived.KernelRfl
namespace Go.Proofs.Qxb6617397a
/- THE CELL 'sum', in the pinned program and in every row, IS THE sha256 OF THE DUMP (.gsa) THAT Qxb6617397aProg.lean LOADS. Nothing in Lean hashes anything: it is a label: what it is worth is what the hold of that sum in a sandbox is worth. -/
noncomputable def Try.pinned : Pinned := { name := "qxb6617397a", sum := "527b730b6a620d892b275c6b4350b5dac44451ac44977490a896b908ad0ecaf8", checked := Try.checked }
namespace Rows
def none {H : Type} : Left H := { results := [], args := [] }

/-- 'zzlaws_sim_b1.FnSummaryConstantRun': WHATEVER THE INPUT: true; the input reads as it did. -/
def fnSummaryConstantRunSpec : ChangeSpec := { name := "fnSummaryConstantRun", fn := fun _ => fun
  | [d1, d2] => { results := [.lit (.bool true)], args := [d1, d2] }
  | _ => none }
def fnSummaryConstantRunRow : OpenClaim := { program := "qxb6617397a", sum := "527b730b6a620d892b275c6b4350b5dac44451ac44977490a896b908ad0ecaf8", func := "example.com/reattempt/reattempt/zzlaws_sim_b1.FnSummaryConstantRun", spec := "fnSummaryConstantRun", apart := false }
def FnSummaryConstantRunSaid : Prop := fnSummaryConstantRunRow.holds Try.pinned (OpenSpec.ofChange fnSummaryConstantRunSpec)

/-- ITS FALSE NEIGHBOUR: 'it returns false'. Refute it at one input. -/
def fnSummaryConstantRunWrong : ChangeSpec := { name := "fnSummaryConstantRun", fn := fun _ => fun
  | [d1, d2] => { results := [.lit (.bool false)], args := [d1, d2] }
  | _ => none }
def FnSummaryConstantRunWrongFalsely : Prop := fnSummaryConstantRunRow.holds Try.pinned (OpenSpec.ofChange fnSummaryConstantRunWrong)

/-- 'zzlaws_sim_b1.FnSummaryAddCommutesWithDoubling': WHATEVER THE INPUT: true; the input reads as it did. -/
def fnSummaryAddCommutesWithDoublingSpec : ChangeSpec := { name := "fnSummaryAddCommutesWithDoubling", fn := fun _ => fun
  | [d1, d2, d3, d4, d5] => { results := [.lit (.bool true)], args := [d1, d2, d3, d4, d5] }
  | _ => none }
def fnSummaryAddCommutesWithDoublingRow : OpenClaim := { program := "qxb6617397a", sum := "527b730b6a620d892b275c6b4350b5dac44451ac44977490a896b908ad0ecaf8", func := "example.com/reattempt/reattempt/zzlaws_sim_b1.FnSummaryAddCommutesWithDoubling", spec := "fnSummaryAddCommutesWithDoubling", apart := false }
def FnSummaryAddCommutesWithDoublingSaid : Prop := fnSummaryAddCommutesWithDoublingRow.holds Try.pinned (OpenSpec.ofChange fnSummaryAddCommutesWithDoublingSpec)

/-- ITS FALSE NEIGHBOUR: 'it returns false'. Refute it at one input. -/
def fnSummaryAddCommutesWithDoublingWrong : ChangeSpec := { name := "fnSummaryAddCommutesWithDoubling", fn := fun _ => fun
  | [d1, d2, d3, d4, d5] => { results := [.lit (.bool false)], args := [d1, d2, d3, d4, d5] }
  | _ => none }
def FnSummaryAddCommutesWithDoublingWrongFalsely : Prop := fnSummaryAddCommutesWithDoublingRow.holds Try.pinned (OpenSpec.ofChange fnSummaryAddCommutesWithDoublingWrong)

/-- 'zzlaws_sim_b1.FnSummaryReobservingMeanKeepsMeanAndSpread': WHATEVER THE INPUT: true; the input reads as it did. -/
def fnSummaryReobservingMeanKeepsMeanAndSpreadSpec : ChangeSpec := { name := "fnSummaryReobservingMeanKeepsMeanAndSpread", fn := fun _ => fun
  | [d1, d2, d3, d4, d5] => { results := [.lit (.bool true)], args := [d1, d2, d3, d4, d5] }
  | _ => none }
def fnSummaryReobservingMeanKeepsMeanAndSpreadRow : OpenClaim := { program := "qxb6617397a", sum := "527b730b6a620d892b275c6b4350b5dac44451ac44977490a896b908ad0ecaf8", func := "example.com/reattempt/reattempt/zzlaws_sim_b1.FnSummaryReobservingMeanKeepsMeanAndSpread", spec := "fnSummaryReobservingMeanKeepsMeanAndSpread", apart := false }
def FnSummaryReobservingMeanKeepsMeanAndSpreadSaid : Prop := fnSummaryReobservingMeanKeepsMeanAndSpreadRow.holds Try.pinned (OpenSpec.ofChange fnSummaryReobservingMeanKeepsMeanAndSpreadSpec)

/-- ITS FALSE NEIGHBOUR: 'it returns false'. Refute it at one input. -/
def fnSummaryReobservingMeanKeepsMeanAndSpreadWrong : ChangeSpec := { name := "fnSummaryReobservingMeanKeepsMeanAndSpread", fn := fun _ => fun
  | [d1, d2, d3, d4, d5] => { results := [.lit (.bool false)], args := [d1, d2, d3, d4, d5] }
  | _ => none }
def FnSummaryReobservingMeanKeepsMeanAndSpreadWrongFalsely : Prop := fnSummaryReobservingMeanKeepsMeanAndSpreadRow.holds Try.pinned (OpenSpec.ofChange fnSummaryReobservingMeanKeepsMeanAndSpreadWrong)

end Rows
end Go.Proofs.Qxb6617397a
