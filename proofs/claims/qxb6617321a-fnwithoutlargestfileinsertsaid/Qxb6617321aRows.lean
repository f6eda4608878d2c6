/-
  No cell of these rows narrows 'for every input' (looked for: loops, veiled, ifaces, maps, wideKeys, modest, calm, conditions, laid).
  DERIVED. THE GIVEN ROWS OF THIS SEAT. 2 by the template 'for every input the law returns true; each argument reads behind the call as it read before'; 0 by the template 'total and deterministic' (their statements: Qxb6617321aTotals.lean).
  GIVEN WITH THE SEED: the statements are not yours to turn. If you find one false, say at which input.
  Laid BY PROGRAM, IN A SANDBOX (cutbox-rows.mjs): the forced cells as the released guide's own fill.sh prints them over the translation 8cdb3d531636cc63… (all of the seat's roots in one cut). By AI agents, Wed Nov 11 2026. No macro, syntax, notation, axiom, sorry.
-/
import Derived.Test.Qxb6617321aChecked
import GoSem.Claim
import GoSem.ClaimJoined
import GoSem.ClaimMapViews
import Derived.JoinedTies
import Derived.KernelRfl
namespace Go.Proofs.Qxb6617321a
/- THE CELL 'sum', in the pinned program and in every row, IS THE sha256 OF THE DUMP (.gsa) THAT Qxb6617321aProg.lean LOADS. Nothing in Lean hashes anything: it is a label: what it is worth is what the hold of that sum in a sandbox is worth. -/
noncomputable def Try.pinned : Pinned := { name := "qxb6617321a", sum := "8cdb3d531636cc63e91c05be14cbf50b6ba78380b63e0ca90932ca03db45df51", checked := Try.checked }
namespace Rows
def none {H : Type} : Left H := { results := [], args := [] }

/-- 'zzlaws_pkg_reviewinput_b1.FnWithoutLargestFileJoin': WHATEVER THE INPUT: true; the input reads as it did. -/
def fnWithoutLargestFileJoinSpec : ChangeSpec := { name := "fnWithoutLargestFileJoin", fn := fun _ => fun
  | [d1, d2] => { results := [.lit (.bool true)], args := [d1, d2] }
  | _ => none }
def fnWithoutLargestFileJoinRow : OpenClaim := { program := "qxb6617321a", sum := "8cdb3d531636cc63e91c05be14cbf50b6ba78380b63e0ca90932ca03db45df51", func := "example.com/lapidary/lapidary/zzlaws_pkg_reviewinput_b1.FnWithoutLargestFileJoin", spec := "fnWithoutLargestFileJoin", apart := false }
def FnWithoutLargestFileJoinSaid : Prop := fnWithoutLargestFileJoinRow.holds Try.pinned (OpenSpec.ofChange fnWithoutLargestFileJoinSpec)

/-- ITS FALSE NEIGHBOUR: 'it returns false'. Refute it at one input. -/
def fnWithoutLargestFileJoinWrong : ChangeSpec := { name := "fnWithoutLargestFileJoin", fn := fun _ => fun
  | [d1, d2] => { results := [.lit (.bool false)], args := [d1, d2] }
  | _ => none }
def FnWithoutLargestFileJoinWrongFalsely : Prop := fnWithoutLargestFileJoinRow.holds Try.pinned (OpenSpec.ofChange fnWithoutLargestFileJoinWrong)

/-- 'zzlaws_pkg_reviewinput_b1.FnWithoutLargestFileInsert': WHATEVER THE INPUT: true; the input reads as it did. -/
def fnWithoutLargestFileInsertSpec : ChangeSpec := { name := "fnWithoutLargestFileInsert", fn := fun _ => fun
  | [d1, d2, d3] => { results := [.lit (.bool true)], args := [d1, d2, d3] }
  | _ => none }
def fnWithoutLargestFileInsertRow : OpenClaim := { program := "qxb6617321a", sum := "8cdb3d531636cc63e91c05be14cbf50b6ba78380b63e0ca90932ca03db45df51", func := "example.com/lapidary/lapidary/zzlaws_pkg_reviewinput_b1.FnWithoutLargestFileInsert", spec := "fnWithoutLargestFileInsert", apart := false }
def FnWithoutLargestFileInsertSaid : Prop := fnWithoutLargestFileInsertRow.holds Try.pinned (OpenSpec.ofChange fnWithoutLargestFileInsertSpec)

/-- ITS FALSE NEIGHBOUR: 'it returns false'. Refute it at one input. -/
def fnWithoutLargestFileInsertWrong : ChangeSpec := { name := "fnWithoutLargestFileInsert", fn := fun _ => fun
  | [d1, d2, d3] => { results := [.lit (.bool false)], args := [d1, d2, d3] }
  | _ => none }
def FnWithoutLargestFileInsertWrongFalsely : Prop := fnWithoutLargestFileInsertRow.holds Try.pinned (OpenSpec.ofChange fnWithoutLargestFileInsertWrong)

end Rows
end Go.Proofs.Qxb6617321a
