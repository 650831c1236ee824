/-
  No cell of these rows narrows 'for every input' (looked for: loops, veiled, ifaces, maps, wideKeys, modest, calm, conditions, laid).
  DERIVED. THE GIVEN ROWS OF THIS SEAT. 3 by the template 'for every input the law returns true; each argument reads behind the call as it read before'; 0 by the template 'total and deterministic' (their statements: Qxb6600574aTotals.lean).
  GIVEN WITH THE SEED: the statements are not yours to turn. If you find one false, say at which input.
  Laid BY PROGRAM, IN A SANDBOX (cutbox-rows.mjs): the forced cells as the released guide's own fill.sh prints them over the translation ff7b9287bcd54848… (all of the seat's roots in one cut). By AI agents, Wed Nov 11 2026. No macro, syntax, notation, axiom, sorry.
-/
import Derived.Test.Qxb6600574aChecked
import GoSem.Claim
import GoSem.ClaimJoined
import GoSem.ClaimMapViews
import Derived.JoinedTies
import Derived.KernelRfl
namespace Go.Proofs.Qxb6600574a
/- THE CELL 'sum', in the pinned program and in every row, IS THE sha256 OF THE DUMP (.gsa) THAT Qxb6600574aProg.lean LOADS. Nothing in Lean hashes anything: it is a label: what it is worth is what the hold of that sum in a sandbox is worth. -/
noncomputable def Try.pinned : Pinned := { name := "qxb6600574a", sum := "ff7b9287bcd54848fb8c5b1daf2b5352cb5542f32ef5058e80ed0f26425bafa8", checked := Try.checked }
namespace Rows
def none {H : Type} : Left H := { results := [], args := [] }

/-- 'zzlaws_root_b1.FnChainIsFirstOfShortest': WHATEVER THE INPUT: true; the input reads as it did. -/
def fnChainIsFirstOfShortestSpec : ChangeSpec := { name := "fnChainIsFirstOfShortest", fn := fun _ => fun
  | [d1, d2, d3, d4] => { results := [.lit (.bool true)], args := [d1, d2, d3, d4] }
  | _ => none }
def fnChainIsFirstOfShortestRow : OpenClaim := { program := "qxb6600574a", sum := "ff7b9287bcd54848fb8c5b1daf2b5352cb5542f32ef5058e80ed0f26425bafa8", func := "example.com/hasp4/hasp4/zzlaws_root_b1.FnChainIsFirstOfShortest", spec := "fnChainIsFirstOfShortest", apart := false }
def FnChainIsFirstOfShortestSaid : Prop := fnChainIsFirstOfShortestRow.holds Try.pinned (OpenSpec.ofChange fnChainIsFirstOfShortestSpec)

/-- ITS FALSE NEIGHBOUR: 'it returns false'. Refute it at one input. -/
def fnChainIsFirstOfShortestWrong : ChangeSpec := { name := "fnChainIsFirstOfShortest", fn := fun _ => fun
  | [d1, d2, d3, d4] => { results := [.lit (.bool false)], args := [d1, d2, d3, d4] }
  | _ => none }
def FnChainIsFirstOfShortestWrongFalsely : Prop := fnChainIsFirstOfShortestRow.holds Try.pinned (OpenSpec.ofChange fnChainIsFirstOfShortestWrong)

/-- 'zzlaws_root_b1.FnChainSubchainsAreChains': WHATEVER THE INPUT: true; the input reads as it did. -/
def fnChainSubchainsAreChainsSpec : ChangeSpec := { name := "fnChainSubchainsAreChains", fn := fun _ => fun
  | [d1, d2, d3, d4] => { results := [.lit (.bool true)], args := [d1, d2, d3, d4] }
  | _ => none }
def fnChainSubchainsAreChainsRow : OpenClaim := { program := "qxb6600574a", sum := "ff7b9287bcd54848fb8c5b1daf2b5352cb5542f32ef5058e80ed0f26425bafa8", func := "example.com/hasp4/hasp4/zzlaws_root_b1.FnChainSubchainsAreChains", spec := "fnChainSubchainsAreChains", apart := false }
def FnChainSubchainsAreChainsSaid : Prop := fnChainSubchainsAreChainsRow.holds Try.pinned (OpenSpec.ofChange fnChainSubchainsAreChainsSpec)

/-- ITS FALSE NEIGHBOUR: 'it returns false'. Refute it at one input. -/
def fnChainSubchainsAreChainsWrong : ChangeSpec := { name := "fnChainSubchainsAreChains", fn := fun _ => fun
  | [d1, d2, d3, d4] => { results := [.lit (.bool false)], args := [d1, d2, d3, d4] }
  | _ => none }
def FnChainSubchainsAreChainsWrongFalsely : Prop := fnChainSubchainsAreChainsRow.holds Try.pinned (OpenSpec.ofChange fnChainSubchainsAreChainsWrong)

/-- 'zzlaws_root_b1.FnChainTriangle': WHATEVER THE INPUT: true; the input reads as it did. -/
def fnChainTriangleSpec : ChangeSpec := { name := "fnChainTriangle", fn := fun _ => fun
  | [d1, d2, d3, d4, d5] => { results := [.lit (.bool true)], args := [d1, d2, d3, d4, d5] }
  | _ => none }
def fnChainTriangleRow : OpenClaim := { program := "qxb6600574a", sum := "ff7b9287bcd54848fb8c5b1daf2b5352cb5542f32ef5058e80ed0f26425bafa8", func := "example.com/hasp4/hasp4/zzlaws_root_b1.FnChainTriangle", spec := "fnChainTriangle", apart := false }
def FnChainTriangleSaid : Prop := fnChainTriangleRow.holds Try.pinned (OpenSpec.ofChange fnChainTriangleSpec)

/-- ITS FALSE NEIGHBOUR: 'it returns false'. Refute it at one input. -/
def fnChainTriangleWrong : ChangeSpec := { name := "fnChainTriangle", fn := fun _ => fun
  | [d1, d2, d3, d4, d5] => { results := [.lit (.bool false)], args := [d1, d2, d3, d4, d5] }
  | _ => none }
def FnChainTriangleWrongFalsely : Prop := fnChainTriangleRow.holds Try.pinned (OpenSpec.ofChange fnChainTriangleWrong)

end Rows
end Go.Proofs.Qxb6600574a
