/-
  No cell of these rows narrows 'for every input' (looked for: loops, veiled, ifaces, maps, wideKeys, modest, calm, conditions, laid).
  DERIVED. THE GIVEN ROWS OF THIS SEAT. 3 by the template 'for every input the law returns true; each argument reads behind the call as it read before'; 0 by the template 'total and deterministic' (their statements: Qxb6613490aModsTotals.lean).
  GIVEN WITH THE SEED: the statements are not yours to turn. If you find one false, say at which input.
  Laid BY PROGRAM, IN A SANDBOX (cutbox-rows.mjs): the forced cells as the released guide's own fill.sh prints them over the translation de3c0bb0a6a81534… (all of the seat's roots in one cut). By AI agents, Wed Nov 11 2026. No macro, syntax, notation, axiom, sorry.
-/
import Derived.Test.Qxb6613490aModsChecked
import GoSem.Claim
import GoSem.ClaimJoined
import GoSem.ClaimMapViews
import Derived.JoinedTies
import Derived.KernelRfl
namespace Go.Proofs.Qxb6613490aMods
/- THE CELL 'sum', in the pinned program and in every row, IS THE sha256 OF THE DUMP (.gsa) THAT Qxb6613490aModsProg.lean LOADS. Nothing in Lean hashes anything: it is a label: what it is worth is what the hold of that sum in a sandbox is worth. -/
noncomputable def Trym.pinned : Pinned := { name := "qxb6613490amods", sum := "de3c0bb0a6a81534fb45b5c9c12dea92e15d06c647d9828f98cfe1341d24bfbe", checked := Trym.checked }
namespace Rows
def none {H : Type} : Left H := { results := [], args := [] }

/-- 'zzlaws_internal_yamltext_b1.FnDefaultHandlesFreshAndStandard': WHATEVER THE INPUT: true; the input reads as it did. -/
def fnDefaultHandlesFreshAndStandardSpec : ChangeSpec := { name := "fnDefaultHandlesFreshAndStandard", fn := fun _ => fun
  | [] => { results := [.lit (.bool true)], args := [] }
  | _ => none }
def fnDefaultHandlesFreshAndStandardRow : OpenClaim := { program := "qxb6613490amods", sum := "de3c0bb0a6a81534fb45b5c9c12dea92e15d06c647d9828f98cfe1341d24bfbe", func := "example.com/ithuriel/ithuriel/zzlaws_internal_yamltext_b1.FnDefaultHandlesFreshAndStandard", spec := "fnDefaultHandlesFreshAndStandard", make := .lifted ["publicsums"], apart := false }
def FnDefaultHandlesFreshAndStandardSaid : Prop := fnDefaultHandlesFreshAndStandardRow.holds Trym.pinned (OpenSpec.ofChange fnDefaultHandlesFreshAndStandardSpec)

/-- ITS FALSE NEIGHBOUR: 'it returns false'. Refute it at one input. -/
def fnDefaultHandlesFreshAndStandardWrong : ChangeSpec := { name := "fnDefaultHandlesFreshAndStandard", fn := fun _ => fun
  | [] => { results := [.lit (.bool false)], args := [] }
  | _ => none }
def FnDefaultHandlesFreshAndStandardWrongFalsely : Prop := fnDefaultHandlesFreshAndStandardRow.holds Trym.pinned (OpenSpec.ofChange fnDefaultHandlesFreshAndStandardWrong)

/-- 'zzlaws_internal_yamltext_b1.FnIsBreakAgreesWithPlace': WHATEVER THE INPUT: true; the input reads as it did. -/
def fnIsBreakAgreesWithPlaceSpec : ChangeSpec := { name := "fnIsBreakAgreesWithPlace", fn := fun _ => fun
  | [d] => { results := [.lit (.bool true)], args := [d] }
  | _ => none }
def fnIsBreakAgreesWithPlaceRow : OpenClaim := { program := "qxb6613490amods", sum := "de3c0bb0a6a81534fb45b5c9c12dea92e15d06c647d9828f98cfe1341d24bfbe", func := "example.com/ithuriel/ithuriel/zzlaws_internal_yamltext_b1.FnIsBreakAgreesWithPlace", spec := "fnIsBreakAgreesWithPlace", make := .lifted ["publicsums"], apart := false }
def FnIsBreakAgreesWithPlaceSaid : Prop := fnIsBreakAgreesWithPlaceRow.holds Trym.pinned (OpenSpec.ofChange fnIsBreakAgreesWithPlaceSpec)

/-- ITS FALSE NEIGHBOUR: 'it returns false'. Refute it at one input. -/
def fnIsBreakAgreesWithPlaceWrong : ChangeSpec := { name := "fnIsBreakAgreesWithPlace", fn := fun _ => fun
  | [d] => { results := [.lit (.bool false)], args := [d] }
  | _ => none }
def FnIsBreakAgreesWithPlaceWrongFalsely : Prop := fnIsBreakAgreesWithPlaceRow.holds Trym.pinned (OpenSpec.ofChange fnIsBreakAgreesWithPlaceWrong)

/-- 'zzlaws_internal_yamltext_b1.FnBreakAndFlowIndicatorDisjointCounts': WHATEVER THE INPUT: true; the input reads as it did. -/
def fnBreakAndFlowIndicatorDisjointCountsSpec : ChangeSpec := { name := "fnBreakAndFlowIndicatorDisjointCounts", fn := fun _ => fun
  | [] => { results := [.lit (.bool true)], args := [] }
  | _ => none }
def fnBreakAndFlowIndicatorDisjointCountsRow : OpenClaim := { program := "qxb6613490amods", sum := "de3c0bb0a6a81534fb45b5c9c12dea92e15d06c647d9828f98cfe1341d24bfbe", func := "example.com/ithuriel/ithuriel/zzlaws_internal_yamltext_b1.FnBreakAndFlowIndicatorDisjointCounts", spec := "fnBreakAndFlowIndicatorDisjointCounts", make := .lifted ["publicsums"], apart := false }
def FnBreakAndFlowIndicatorDisjointCountsSaid : Prop := fnBreakAndFlowIndicatorDisjointCountsRow.holds Trym.pinned (OpenSpec.ofChange fnBreakAndFlowIndicatorDisjointCountsSpec)

/-- ITS FALSE NEIGHBOUR: 'it returns false'. Refute it at one input. -/
def fnBreakAndFlowIndicatorDisjointCountsWrong : ChangeSpec := { name := "fnBreakAndFlowIndicatorDisjointCounts", fn := fun _ => fun
  | [] => { results := [.lit (.bool false)], args := [] }
  | _ => none }
def FnBreakAndFlowIndicatorDisjointCountsWrongFalsely : Prop := fnBreakAndFlowIndicatorDisjointCountsRow.holds Trym.pinned (OpenSpec.ofChange fnBreakAndFlowIndicatorDisjointCountsWrong)

end Rows
end Go.Proofs.Qxb6613490aMods
