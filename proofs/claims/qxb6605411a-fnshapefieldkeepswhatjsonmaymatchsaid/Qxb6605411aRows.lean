/-
  No cell of these rows narrows 'for every input' (looked for: loops, veiled, ifaces, maps, wideKeys, modest, calm, conditions, laid).
  DERIVED. THE GIVEN ROWS OF THIS SEAT. 4 by the template 'for every input the law returns true; each argument reads behind the call as it read before'; 0 by the template 'total and deterministic' (their statements: Qxb6605411aTotals.lean).
  GIVEN WITH THE SEED: the statements are not yours to turn. If you find one false, say at which input.
  Laid BY PROGRAM, IN A SANDBOX (cutbox-rows.mjs): the forced cells as the released guide's own fill.sh prints them over the translation 5ab7520e4cb46e90… (all of the seat's roots in one cut). By AI agents, Wed Nov 11 2026. No macro, syntax, notation, axiom, sorry.
-/
import Derived.Test.Qxb6605411aChecked
import GoSem.Claim
import GoSem.ClaimJoined
import GoSem.ClaimMapViews
import Derived.JoinedTies
import Derived.KernelRfl
namespace Go.Proofs.Qxb6605411a
/- THE CELL 'sum', in the pinned program and in every row, IS THE sha256 OF THE DUMP (.gsa) THAT Qxb6605411aProg.lean LOADS. Nothing in Lean hashes anything: it is a label: what it is worth is what the hold of that sum in a sandbox is worth. -/
noncomputable def Try.pinned : Pinned := { name := "qxb6605411a", sum := "5ab7520e4cb46e901f897d1c7ec239e6a416bdbed4fe8ae883fe1364d45d66e5", checked := Try.checked }
namespace Rows
def none {H : Type} : Left H := { results := [], args := [] }

/-- 'zzlaws_internal_jsonpick_b1.FnSpaceFirstNonBlank': WHATEVER THE INPUT: true; the input reads as it did. -/
def fnSpaceFirstNonBlankSpec : ChangeSpec := { name := "fnSpaceFirstNonBlank", fn := fun _ => fun
  | [d1, d2] => { results := [.lit (.bool true)], args := [d1, d2] }
  | _ => none }
def fnSpaceFirstNonBlankRow : OpenClaim := { program := "qxb6605411a", sum := "5ab7520e4cb46e901f897d1c7ec239e6a416bdbed4fe8ae883fe1364d45d66e5", func := "example.com/tenure/tenure/zzlaws_internal_jsonpick_b1.FnSpaceFirstNonBlank", spec := "fnSpaceFirstNonBlank", apart := false }
def FnSpaceFirstNonBlankSaid : Prop := fnSpaceFirstNonBlankRow.holds Try.pinned (OpenSpec.ofChange fnSpaceFirstNonBlankSpec)

/-- ITS FALSE NEIGHBOUR: 'it returns false'. Refute it at one input. -/
def fnSpaceFirstNonBlankWrong : ChangeSpec := { name := "fnSpaceFirstNonBlank", fn := fun _ => fun
  | [d1, d2] => { results := [.lit (.bool false)], args := [d1, d2] }
  | _ => none }
def FnSpaceFirstNonBlankWrongFalsely : Prop := fnSpaceFirstNonBlankRow.holds Try.pinned (OpenSpec.ofChange fnSpaceFirstNonBlankWrong)

/-- 'zzlaws_internal_jsonpick_b1.FnSpaceStaysOnTextSkipsBlankRun': WHATEVER THE INPUT: true; the input reads as it did. -/
def fnSpaceStaysOnTextSkipsBlankRunSpec : ChangeSpec := { name := "fnSpaceStaysOnTextSkipsBlankRun", fn := fun _ => fun
  | [d1, d2] => { results := [.lit (.bool true)], args := [d1, d2] }
  | _ => none }
def fnSpaceStaysOnTextSkipsBlankRunRow : OpenClaim := { program := "qxb6605411a", sum := "5ab7520e4cb46e901f897d1c7ec239e6a416bdbed4fe8ae883fe1364d45d66e5", func := "example.com/tenure/tenure/zzlaws_internal_jsonpick_b1.FnSpaceStaysOnTextSkipsBlankRun", spec := "fnSpaceStaysOnTextSkipsBlankRun", apart := false }
def FnSpaceStaysOnTextSkipsBlankRunSaid : Prop := fnSpaceStaysOnTextSkipsBlankRunRow.holds Try.pinned (OpenSpec.ofChange fnSpaceStaysOnTextSkipsBlankRunSpec)

/-- ITS FALSE NEIGHBOUR: 'it returns false'. Refute it at one input. -/
def fnSpaceStaysOnTextSkipsBlankRunWrong : ChangeSpec := { name := "fnSpaceStaysOnTextSkipsBlankRun", fn := fun _ => fun
  | [d1, d2] => { results := [.lit (.bool false)], args := [d1, d2] }
  | _ => none }
def FnSpaceStaysOnTextSkipsBlankRunWrongFalsely : Prop := fnSpaceStaysOnTextSkipsBlankRunRow.holds Try.pinned (OpenSpec.ofChange fnSpaceStaysOnTextSkipsBlankRunWrong)

/-- 'zzlaws_internal_jsonpick_b1.FnKeysGivenAgainReportsEarlierEqual': WHATEVER THE INPUT: true; the input reads as it did. -/
def fnKeysGivenAgainReportsEarlierEqualSpec : ChangeSpec := { name := "fnKeysGivenAgainReportsEarlierEqual", fn := fun _ => fun
  | [d] => { results := [.lit (.bool true)], args := [d] }
  | _ => none }
def fnKeysGivenAgainReportsEarlierEqualRow : OpenClaim := { program := "qxb6605411a", sum := "5ab7520e4cb46e901f897d1c7ec239e6a416bdbed4fe8ae883fe1364d45d66e5", func := "example.com/tenure/tenure/zzlaws_internal_jsonpick_b1.FnKeysGivenAgainReportsEarlierEqual", spec := "fnKeysGivenAgainReportsEarlierEqual", apart := false }
def FnKeysGivenAgainReportsEarlierEqualSaid : Prop := fnKeysGivenAgainReportsEarlierEqualRow.holds Try.pinned (OpenSpec.ofChange fnKeysGivenAgainReportsEarlierEqualSpec)

/-- ITS FALSE NEIGHBOUR: 'it returns false'. Refute it at one input. -/
def fnKeysGivenAgainReportsEarlierEqualWrong : ChangeSpec := { name := "fnKeysGivenAgainReportsEarlierEqual", fn := fun _ => fun
  | [d] => { results := [.lit (.bool false)], args := [d] }
  | _ => none }
def FnKeysGivenAgainReportsEarlierEqualWrongFalsely : Prop := fnKeysGivenAgainReportsEarlierEqualRow.holds Try.pinned (OpenSpec.ofChange fnKeysGivenAgainReportsEarlierEqualWrong)

/-- 'zzlaws_internal_jsonpick_b1.FnShapeFieldKeepsWhatJSONMayMatch': WHATEVER THE INPUT: true; the input reads as it did. -/
def fnShapeFieldKeepsWhatJSONMayMatchSpec : ChangeSpec := { name := "fnShapeFieldKeepsWhatJSONMayMatch", fn := fun _ => fun
  | [d1, d2, d3] => { results := [.lit (.bool true)], args := [d1, d2, d3] }
  | _ => none }
def fnShapeFieldKeepsWhatJSONMayMatchRow : OpenClaim := { program := "qxb6605411a", sum := "5ab7520e4cb46e901f897d1c7ec239e6a416bdbed4fe8ae883fe1364d45d66e5", func := "example.com/tenure/tenure/zzlaws_internal_jsonpick_b1.FnShapeFieldKeepsWhatJSONMayMatch", spec := "fnShapeFieldKeepsWhatJSONMayMatch", apart := false }
def FnShapeFieldKeepsWhatJSONMayMatchSaid : Prop := fnShapeFieldKeepsWhatJSONMayMatchRow.holds Try.pinned (OpenSpec.ofChange fnShapeFieldKeepsWhatJSONMayMatchSpec)

/-- ITS FALSE NEIGHBOUR: 'it returns false'. Refute it at one input. -/
def fnShapeFieldKeepsWhatJSONMayMatchWrong : ChangeSpec := { name := "fnShapeFieldKeepsWhatJSONMayMatch", fn := fun _ => fun
  | [d1, d2, d3] => { results := [.lit (.bool false)], args := [d1, d2, d3] }
  | _ => none }
def FnShapeFieldKeepsWhatJSONMayMatchWrongFalsely : Prop := fnShapeFieldKeepsWhatJSONMayMatchRow.holds Try.pinned (OpenSpec.ofChange fnShapeFieldKeepsWhatJSONMayMatchWrong)

end Rows
end Go.Proofs.Qxb6605411a
