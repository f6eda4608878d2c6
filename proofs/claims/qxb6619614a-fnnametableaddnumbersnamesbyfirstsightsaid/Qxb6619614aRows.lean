/-
  No cell of these rows narrows 'for every input' (looked for: loops, veiled, ifaces, maps, wideKeys, modest, calm, conditions, laid).
  DERIVED. THE GIVEN ROWS OF THIS SEAT. 3 by the template 'for every input the law returns true; each argument reads behind the call as it read before'; 0 by the template 'total and deterministic' (their statements: Qxb6619614aTotals.lean).
  GIVEN WITH THE SEED: the statements are not yours to turn. If you find one false, say at which input.
  Laid BY PROGRAM, IN A SANDBOX (cutbox-rows.mjs): the forced cells as the released guide's own fill.sh prints them over the translation b4f445e3661e4715… (all of the seat's roots in one cut). By AI agents, Wed Nov 11 2026. No macro, syntax, notation, axiom, sorry.
-/
import Derived.Test.Qxb6619614aChecked
import GoSem.Claim
import GoSem.ClaimJoined
import GoSem.ClaimMapViews
import Derived.JoinedTies
import Derived.KernelRfl
namespace Go.Proofs.Qxb6619614a
/- THE CELL 'sum', in the pinned program and in every row, IS THE sha256 OF THE DUMP (.gsa) THAT Qxb6619614aProg.lean LOADS. Nothing in Lean hashes anything: it is a label: what it is worth is what the hold of that sum in a sandbox is worth. -/
noncomputable def Try.pinned : Pinned := { name := "qxb6619614a", sum := "b4f445e3661e4715e99af2cc85c5b51b4e3f741280a485e09f373f21a4c3c0b6", checked := Try.checked }
namespace Rows
def none {H : Type} : Left H := { results := [], args := [] }

/-- 'zzlaws_root_b1.FnHexDigitReadsSixteenValuesCaseFree': WHATEVER THE INPUT: true; the input reads as it did. -/
def fnHexDigitReadsSixteenValuesCaseFreeSpec : ChangeSpec := { name := "fnHexDigitReadsSixteenValuesCaseFree", fn := fun _ => fun
  | [d] => { results := [.lit (.bool true)], args := [d] }
  | _ => none }
def fnHexDigitReadsSixteenValuesCaseFreeRow : OpenClaim := { program := "qxb6619614a", sum := "b4f445e3661e4715e99af2cc85c5b51b4e3f741280a485e09f373f21a4c3c0b6", func := "example.com/quern/quern/zzlaws_root_b1.FnHexDigitReadsSixteenValuesCaseFree", spec := "fnHexDigitReadsSixteenValuesCaseFree", apart := false }
def FnHexDigitReadsSixteenValuesCaseFreeSaid : Prop := fnHexDigitReadsSixteenValuesCaseFreeRow.holds Try.pinned (OpenSpec.ofChange fnHexDigitReadsSixteenValuesCaseFreeSpec)

/-- ITS FALSE NEIGHBOUR: 'it returns false'. Refute it at one input. -/
def fnHexDigitReadsSixteenValuesCaseFreeWrong : ChangeSpec := { name := "fnHexDigitReadsSixteenValuesCaseFree", fn := fun _ => fun
  | [d] => { results := [.lit (.bool false)], args := [d] }
  | _ => none }
def FnHexDigitReadsSixteenValuesCaseFreeWrongFalsely : Prop := fnHexDigitReadsSixteenValuesCaseFreeRow.holds Try.pinned (OpenSpec.ofChange fnHexDigitReadsSixteenValuesCaseFreeWrong)

/-- 'zzlaws_root_b1.FnSkipSpaceStopsAtFirstNonSpaceAcrossAnyCut': WHATEVER THE INPUT: true; the input reads as it did. -/
def fnSkipSpaceStopsAtFirstNonSpaceAcrossAnyCutSpec : ChangeSpec := { name := "fnSkipSpaceStopsAtFirstNonSpaceAcrossAnyCut", fn := fun _ => fun
  | [d1, d2, d3] => { results := [.lit (.bool true)], args := [d1, d2, d3] }
  | _ => none }
def fnSkipSpaceStopsAtFirstNonSpaceAcrossAnyCutRow : OpenClaim := { program := "qxb6619614a", sum := "b4f445e3661e4715e99af2cc85c5b51b4e3f741280a485e09f373f21a4c3c0b6", func := "example.com/quern/quern/zzlaws_root_b1.FnSkipSpaceStopsAtFirstNonSpaceAcrossAnyCut", spec := "fnSkipSpaceStopsAtFirstNonSpaceAcrossAnyCut", apart := false }
def FnSkipSpaceStopsAtFirstNonSpaceAcrossAnyCutSaid : Prop := fnSkipSpaceStopsAtFirstNonSpaceAcrossAnyCutRow.holds Try.pinned (OpenSpec.ofChange fnSkipSpaceStopsAtFirstNonSpaceAcrossAnyCutSpec)

/-- ITS FALSE NEIGHBOUR: 'it returns false'. Refute it at one input. -/
def fnSkipSpaceStopsAtFirstNonSpaceAcrossAnyCutWrong : ChangeSpec := { name := "fnSkipSpaceStopsAtFirstNonSpaceAcrossAnyCut", fn := fun _ => fun
  | [d1, d2, d3] => { results := [.lit (.bool false)], args := [d1, d2, d3] }
  | _ => none }
def FnSkipSpaceStopsAtFirstNonSpaceAcrossAnyCutWrongFalsely : Prop := fnSkipSpaceStopsAtFirstNonSpaceAcrossAnyCutRow.holds Try.pinned (OpenSpec.ofChange fnSkipSpaceStopsAtFirstNonSpaceAcrossAnyCutWrong)

/-- 'zzlaws_root_b1.FnNameTableAddNumbersNamesByFirstSight': WHATEVER THE INPUT: true; the input reads as it did. -/
def fnNameTableAddNumbersNamesByFirstSightSpec : ChangeSpec := { name := "fnNameTableAddNumbersNamesByFirstSight", fn := fun _ => fun
  | [d] => { results := [.lit (.bool true)], args := [d] }
  | _ => none }
def fnNameTableAddNumbersNamesByFirstSightRow : OpenClaim := { program := "qxb6619614a", sum := "b4f445e3661e4715e99af2cc85c5b51b4e3f741280a485e09f373f21a4c3c0b6", func := "example.com/quern/quern/zzlaws_root_b1.FnNameTableAddNumbersNamesByFirstSight", spec := "fnNameTableAddNumbersNamesByFirstSight", apart := false }
def FnNameTableAddNumbersNamesByFirstSightSaid : Prop := fnNameTableAddNumbersNamesByFirstSightRow.holds Try.pinned (OpenSpec.ofChange fnNameTableAddNumbersNamesByFirstSightSpec)

/-- ITS FALSE NEIGHBOUR: 'it returns false'. Refute it at one input. -/
def fnNameTableAddNumbersNamesByFirstSightWrong : ChangeSpec := { name := "fnNameTableAddNumbersNamesByFirstSight", fn := fun _ => fun
  | [d] => { results := [.lit (.bool false)], args := [d] }
  | _ => none }
def FnNameTableAddNumbersNamesByFirstSightWrongFalsely : Prop := fnNameTableAddNumbersNamesByFirstSightRow.holds Try.pinned (OpenSpec.ofChange fnNameTableAddNumbersNamesByFirstSightWrong)

end Rows
end Go.Proofs.Qxb6619614a
