/-
  No cell of these rows narrows 'for every input' (looked for: loops, veiled, ifaces, maps, wideKeys, modest, calm, conditions, laid).
  DERIVED. THE GIVEN ROWS OF THIS SEAT. 3 by the template 'for every input the law returns true; each argument reads behind the call as it read before'; 0 by the template 'total and deterministic' (their statements: Qxb6605349aTotals.lean).
  GIVEN WITH THE SEED: the statements are not yours to turn. If you find one false, say at which input.
  Laid BY PROGRAM, IN A SANDBOX (cutbox-rows.mjs): the forced cells as the released guide's own fill.sh prints them over the translation 83d81082e399a7b2… (all of the seat's roots in one cut). By AI agents, Wed Nov 11 2026. No macro, syntax, notation, axiom, sorry.
-/
import Derived.Test.Qxb6605349aChecked
import GoSem.Claim
import GoSem.ClaimJoined
import GoSem.ClaimMapViews
import Derived.JoinedTies
import Derived.KernelRfl
namespace Go.Proofs.Qxb6605349a
/- THE CELL 'sum', in the pinned program and in every row, IS THE sha256 OF THE DUMP (.gsa) THAT Qxb6605349aProg.lean LOADS. Nothing in Lean hashes anything: it is a label: what it is worth is what the hold of that sum in a sandbox is worth. -/
noncomputable def Try.pinned : Pinned := { name := "qxb6605349a", sum := "83d81082e399a7b23d2e84bb484a40469f16a77d11566f36fd9cce06c9525fa5", checked := Try.checked }
namespace Rows
def none {H : Type} : Left H := { results := [], args := [] }

/-- 'zzlaws_pkg_story_b1.FnCompareTitlesIsATotalOrder': WHATEVER THE INPUT: true; the input reads as it did. -/
def fnCompareTitlesIsATotalOrderSpec : ChangeSpec := { name := "fnCompareTitlesIsATotalOrder", fn := fun _ => fun
  | [d1, d2, d3] => { results := [.lit (.bool true)], args := [d1, d2, d3] }
  | _ => none }
def fnCompareTitlesIsATotalOrderRow : OpenClaim := { program := "qxb6605349a", sum := "83d81082e399a7b23d2e84bb484a40469f16a77d11566f36fd9cce06c9525fa5", func := "example.com/talewright/talewright/zzlaws_pkg_story_b1.FnCompareTitlesIsATotalOrder", spec := "fnCompareTitlesIsATotalOrder", inPlace := ["internal/bytealg.abigen_runtime_cmpstring"], apart := false }
def FnCompareTitlesIsATotalOrderSaid : Prop := fnCompareTitlesIsATotalOrderRow.holds Try.pinned (OpenSpec.ofChange fnCompareTitlesIsATotalOrderSpec)

/-- ITS FALSE NEIGHBOUR: 'it returns false'. Refute it at one input. -/
def fnCompareTitlesIsATotalOrderWrong : ChangeSpec := { name := "fnCompareTitlesIsATotalOrder", fn := fun _ => fun
  | [d1, d2, d3] => { results := [.lit (.bool false)], args := [d1, d2, d3] }
  | _ => none }
def FnCompareTitlesIsATotalOrderWrongFalsely : Prop := fnCompareTitlesIsATotalOrderRow.holds Try.pinned (OpenSpec.ofChange fnCompareTitlesIsATotalOrderWrong)

/-- 'zzlaws_pkg_story_b1.FnFoldASCIILowersExactlyTheCapitals': WHATEVER THE INPUT: true; the input reads as it did. -/
def fnFoldASCIILowersExactlyTheCapitalsSpec : ChangeSpec := { name := "fnFoldASCIILowersExactlyTheCapitals", fn := fun _ => fun
  | [d] => { results := [.lit (.bool true)], args := [d] }
  | _ => none }
def fnFoldASCIILowersExactlyTheCapitalsRow : OpenClaim := { program := "qxb6605349a", sum := "83d81082e399a7b23d2e84bb484a40469f16a77d11566f36fd9cce06c9525fa5", func := "example.com/talewright/talewright/zzlaws_pkg_story_b1.FnFoldASCIILowersExactlyTheCapitals", spec := "fnFoldASCIILowersExactlyTheCapitals", inPlace := ["internal/abi.NoEscape", "internal/bytealg.MakeNoZero"], apart := false }
def FnFoldASCIILowersExactlyTheCapitalsSaid : Prop := fnFoldASCIILowersExactlyTheCapitalsRow.holds Try.pinned (OpenSpec.ofChange fnFoldASCIILowersExactlyTheCapitalsSpec)

/-- ITS FALSE NEIGHBOUR: 'it returns false'. Refute it at one input. -/
def fnFoldASCIILowersExactlyTheCapitalsWrong : ChangeSpec := { name := "fnFoldASCIILowersExactlyTheCapitals", fn := fun _ => fun
  | [d] => { results := [.lit (.bool false)], args := [d] }
  | _ => none }
def FnFoldASCIILowersExactlyTheCapitalsWrongFalsely : Prop := fnFoldASCIILowersExactlyTheCapitalsRow.holds Try.pinned (OpenSpec.ofChange fnFoldASCIILowersExactlyTheCapitalsWrong)

/-- 'zzlaws_pkg_story_b1.FnFoldASCIIIsIdempotentAndSortsJustAfterItsTitle': WHATEVER THE INPUT: true; the input reads as it did. -/
def fnFoldASCIIIsIdempotentAndSortsJustAfterItsTitleSpec : ChangeSpec := { name := "fnFoldASCIIIsIdempotentAndSortsJustAfterItsTitle", fn := fun _ => fun
  | [d] => { results := [.lit (.bool true)], args := [d] }
  | _ => none }
def fnFoldASCIIIsIdempotentAndSortsJustAfterItsTitleRow : OpenClaim := { program := "qxb6605349a", sum := "83d81082e399a7b23d2e84bb484a40469f16a77d11566f36fd9cce06c9525fa5", func := "example.com/talewright/talewright/zzlaws_pkg_story_b1.FnFoldASCIIIsIdempotentAndSortsJustAfterItsTitle", spec := "fnFoldASCIIIsIdempotentAndSortsJustAfterItsTitle", inPlace := ["internal/abi.NoEscape", "internal/bytealg.MakeNoZero", "internal/bytealg.abigen_runtime_cmpstring"], apart := false }
def FnFoldASCIIIsIdempotentAndSortsJustAfterItsTitleSaid : Prop := fnFoldASCIIIsIdempotentAndSortsJustAfterItsTitleRow.holds Try.pinned (OpenSpec.ofChange fnFoldASCIIIsIdempotentAndSortsJustAfterItsTitleSpec)

/-- ITS FALSE NEIGHBOUR: 'it returns false'. Refute it at one input. -/
def fnFoldASCIIIsIdempotentAndSortsJustAfterItsTitleWrong : ChangeSpec := { name := "fnFoldASCIIIsIdempotentAndSortsJustAfterItsTitle", fn := fun _ => fun
  | [d] => { results := [.lit (.bool false)], args := [d] }
  | _ => none }
def FnFoldASCIIIsIdempotentAndSortsJustAfterItsTitleWrongFalsely : Prop := fnFoldASCIIIsIdempotentAndSortsJustAfterItsTitleRow.holds Try.pinned (OpenSpec.ofChange fnFoldASCIIIsIdempotentAndSortsJustAfterItsTitleWrong)

end Rows
end Go.Proofs.Qxb6605349a
