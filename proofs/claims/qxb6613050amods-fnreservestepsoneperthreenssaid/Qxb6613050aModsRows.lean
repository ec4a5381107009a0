/-
  No cell of these rows narrows 'for every input' (looked for: loops, veiled, ifaces, maps, wideKeys, modest, calm, conditions, laid).
  DERIVED. THE GIVEN ROWS OF THIS SEAT. 2 by the template 'for every input the law returns true; each argument reads behind the call as it read before'; 0 by the template 'total and deterministic' (their statements: Qxb6613050aModsTotals.lean).
  GIVEN WITH THE SEED: the statements are not yours to turn. If you find one false, say at which input.
  Laid BY PROGRAM, IN A SANDBOX (cutbox-rows.mjs): the forced cells as the released guide's own fill.sh prints them over the translation 2b11b1b9448b0050… (all of the seat's roots in one cut). By AI agents, Wed Nov 11 2026. No macro, syntax, notation, axiom, sorry.
-/
import Derived.Test.Qxb6613050aModsChecked
import GoSem.Claim
import GoSem.ClaimJoined
import GoSem.ClaimMapViews
import Derived.JoinedTies
import Derived.KernelRfl
namespace Go.Proofs.Qxb6613050aMods
/- THE CELL 'sum', in the pinned program and in every row, IS THE sha256 OF THE DUMP (.gsa) THAT Qxb6613050aModsProg.lean LOADS. Nothing in Lean hashes anything: it is a label: what it is worth is what the hold of that sum in a sandbox is worth. -/
noncomputable def Trym.pinned : Pinned := { name := "qxb6613050amods", sum := "2b11b1b9448b00504b3eb49b15767df17c5b3f78024f60f00be3f427fd3f404c", checked := Trym.checked }
namespace Rows
def none {H : Type} : Left H := { results := [], args := [] }

/-- 'zzlaws_root_b1.FnReserveStepsOnePerThreeNs': WHATEVER THE INPUT: true; the input reads as it did. -/
def fnReserveStepsOnePerThreeNsSpec : ChangeSpec := { name := "fnReserveStepsOnePerThreeNs", fn := fun _ => fun
  | [d1, d2] => { results := [.lit (.bool true)], args := [d1, d2] }
  | _ => none }
def fnReserveStepsOnePerThreeNsRow : OpenClaim := { program := "qxb6613050amods", sum := "2b11b1b9448b00504b3eb49b15767df17c5b3f78024f60f00be3f427fd3f404c", func := "example.com/atmost1/atmost1/zzlaws_root_b1.FnReserveStepsOnePerThreeNs", spec := "fnReserveStepsOnePerThreeNs", make := .lifted ["publicsums"], apart := false }
def FnReserveStepsOnePerThreeNsSaid : Prop := fnReserveStepsOnePerThreeNsRow.holds Trym.pinned (OpenSpec.ofChange fnReserveStepsOnePerThreeNsSpec)

/-- ITS FALSE NEIGHBOUR: 'it returns false'. Refute it at one input. -/
def fnReserveStepsOnePerThreeNsWrong : ChangeSpec := { name := "fnReserveStepsOnePerThreeNs", fn := fun _ => fun
  | [d1, d2] => { results := [.lit (.bool false)], args := [d1, d2] }
  | _ => none }
def FnReserveStepsOnePerThreeNsWrongFalsely : Prop := fnReserveStepsOnePerThreeNsRow.holds Trym.pinned (OpenSpec.ofChange fnReserveStepsOnePerThreeNsWrong)

/-- 'zzlaws_root_b1.FnReserveOddAndTruncatedTowardZero': WHATEVER THE INPUT: true; the input reads as it did. -/
def fnReserveOddAndTruncatedTowardZeroSpec : ChangeSpec := { name := "fnReserveOddAndTruncatedTowardZero", fn := fun _ => fun
  | [d] => { results := [.lit (.bool true)], args := [d] }
  | _ => none }
def fnReserveOddAndTruncatedTowardZeroRow : OpenClaim := { program := "qxb6613050amods", sum := "2b11b1b9448b00504b3eb49b15767df17c5b3f78024f60f00be3f427fd3f404c", func := "example.com/atmost1/atmost1/zzlaws_root_b1.FnReserveOddAndTruncatedTowardZero", spec := "fnReserveOddAndTruncatedTowardZero", make := .lifted ["publicsums"], apart := false }
def FnReserveOddAndTruncatedTowardZeroSaid : Prop := fnReserveOddAndTruncatedTowardZeroRow.holds Trym.pinned (OpenSpec.ofChange fnReserveOddAndTruncatedTowardZeroSpec)

/-- ITS FALSE NEIGHBOUR: 'it returns false'. Refute it at one input. -/
def fnReserveOddAndTruncatedTowardZeroWrong : ChangeSpec := { name := "fnReserveOddAndTruncatedTowardZero", fn := fun _ => fun
  | [d] => { results := [.lit (.bool false)], args := [d] }
  | _ => none }
def FnReserveOddAndTruncatedTowardZeroWrongFalsely : Prop := fnReserveOddAndTruncatedTowardZeroRow.holds Trym.pinned (OpenSpec.ofChange fnReserveOddAndTruncatedTowardZeroWrong)

end Rows
end Go.Proofs.Qxb6613050aMods
