/-
  No cell of these rows narrows 'for every input' (looked for: loops, veiled, ifaces, maps, wideKeys, modest, calm, conditions, laid).
  DERIVED. THE GIVEN ROWS OF THIS SEAT. 4 by the template 'for every input the law returns true; each argument reads behind the call as it read before'; 0 by the template 'total and deterministic' (their statements: Qxb6612623aModsTotals.lean).
  GIVEN WITH THE SEED: the statements are not yours to turn. If you find one false, say at which input.
  Laid BY PROGRAM, IN A SANDBOX (cutbox-rows.mjs): the forced cells as the released guide's own fill.sh prints them over the translation 60d3b097ff3b7a9e… (all of the seat's roots in one cut). By AI agents, Wed Nov 11 2026. No macro, syntax, notation, axiom, sorry.
-/
import Derived.Test.Qxb6612623aModsChecked
import GoSem.Claim
import GoSem.ClaimJoined
import GoSem.ClaimMapViews
import Derived.JoinedTies
import Derived.KernelRfl
namespace Go.Proofs.Qxb6612623aMods
/- THE CELL 'sum', in the pinned program and in every row, IS THE sha256 OF THE DUMP (.gsa) THAT Qxb6612623aModsProg.lean LOADS. Nothing in Lean hashes anything: it is a label: what it is worth is what the hold of that sum in a sandbox is worth. -/
noncomputable def Trym.pinned : Pinned := { name := "qxb6612623amods", sum := "60d3b097ff3b7a9ea3312c4df61d2344e499ea8d60500d098cc7547ec1e7317b", checked := Trym.checked }
namespace Rows
def none {H : Type} : Left H := { results := [], args := [] }

/-- 'zzlaws_pkg_quickjson_b1.FnBytesBelowGrowsByExactlyTheBytesEqualToNMinus1': WHATEVER THE INPUT: true; the input reads as it did. -/
def fnBytesBelowGrowsByExactlyTheBytesEqualToNMinus1Spec : ChangeSpec := { name := "fnBytesBelowGrowsByExactlyTheBytesEqualToNMinus1", fn := fun _ => fun
  | [d1, d2] => { results := [.lit (.bool true)], args := [d1, d2] }
  | _ => none }
def fnBytesBelowGrowsByExactlyTheBytesEqualToNMinus1Row : OpenClaim := { program := "qxb6612623amods", sum := "60d3b097ff3b7a9ea3312c4df61d2344e499ea8d60500d098cc7547ec1e7317b", func := "example.com/allotgate/allotgate/zzlaws_pkg_quickjson_b1.FnBytesBelowGrowsByExactlyTheBytesEqualToNMinus1", spec := "fnBytesBelowGrowsByExactlyTheBytesEqualToNMinus1", make := .lifted ["publicsums"], apart := false }
def FnBytesBelowGrowsByExactlyTheBytesEqualToNMinus1Said : Prop := fnBytesBelowGrowsByExactlyTheBytesEqualToNMinus1Row.holds Trym.pinned (OpenSpec.ofChange fnBytesBelowGrowsByExactlyTheBytesEqualToNMinus1Spec)

/-- ITS FALSE NEIGHBOUR: 'it returns false'. Refute it at one input. -/
def fnBytesBelowGrowsByExactlyTheBytesEqualToNMinus1Wrong : ChangeSpec := { name := "fnBytesBelowGrowsByExactlyTheBytesEqualToNMinus1", fn := fun _ => fun
  | [d1, d2] => { results := [.lit (.bool false)], args := [d1, d2] }
  | _ => none }
def FnBytesBelowGrowsByExactlyTheBytesEqualToNMinus1WrongFalsely : Prop := fnBytesBelowGrowsByExactlyTheBytesEqualToNMinus1Row.holds Trym.pinned (OpenSpec.ofChange fnBytesBelowGrowsByExactlyTheBytesEqualToNMinus1Wrong)

/-- 'zzlaws_pkg_quickjson_b1.FnBytesBelowIsBytewiseAtAnyCut': WHATEVER THE INPUT: true; the input reads as it did. -/
def fnBytesBelowIsBytewiseAtAnyCutSpec : ChangeSpec := { name := "fnBytesBelowIsBytewiseAtAnyCut", fn := fun _ => fun
  | [d1, d2, d3] => { results := [.lit (.bool true)], args := [d1, d2, d3] }
  | _ => none }
def fnBytesBelowIsBytewiseAtAnyCutRow : OpenClaim := { program := "qxb6612623amods", sum := "60d3b097ff3b7a9ea3312c4df61d2344e499ea8d60500d098cc7547ec1e7317b", func := "example.com/allotgate/allotgate/zzlaws_pkg_quickjson_b1.FnBytesBelowIsBytewiseAtAnyCut", spec := "fnBytesBelowIsBytewiseAtAnyCut", make := .lifted ["publicsums"], apart := false }
def FnBytesBelowIsBytewiseAtAnyCutSaid : Prop := fnBytesBelowIsBytewiseAtAnyCutRow.holds Trym.pinned (OpenSpec.ofChange fnBytesBelowIsBytewiseAtAnyCutSpec)

/-- ITS FALSE NEIGHBOUR: 'it returns false'. Refute it at one input. -/
def fnBytesBelowIsBytewiseAtAnyCutWrong : ChangeSpec := { name := "fnBytesBelowIsBytewiseAtAnyCut", fn := fun _ => fun
  | [d1, d2, d3] => { results := [.lit (.bool false)], args := [d1, d2, d3] }
  | _ => none }
def FnBytesBelowIsBytewiseAtAnyCutWrongFalsely : Prop := fnBytesBelowIsBytewiseAtAnyCutRow.holds Trym.pinned (OpenSpec.ofChange fnBytesBelowIsBytewiseAtAnyCutWrong)

/-- 'zzlaws_pkg_quickjson_b1.FnLexicalBytesIsControlsPlusQuotesAndBackslashes': WHATEVER THE INPUT: true; the input reads as it did. -/
def fnLexicalBytesIsControlsPlusQuotesAndBackslashesSpec : ChangeSpec := { name := "fnLexicalBytesIsControlsPlusQuotesAndBackslashes", fn := fun _ => fun
  | [d] => { results := [.lit (.bool true)], args := [d] }
  | _ => none }
def fnLexicalBytesIsControlsPlusQuotesAndBackslashesRow : OpenClaim := { program := "qxb6612623amods", sum := "60d3b097ff3b7a9ea3312c4df61d2344e499ea8d60500d098cc7547ec1e7317b", func := "example.com/allotgate/allotgate/zzlaws_pkg_quickjson_b1.FnLexicalBytesIsControlsPlusQuotesAndBackslashes", spec := "fnLexicalBytesIsControlsPlusQuotesAndBackslashes", make := .lifted ["publicsums"], apart := false }
def FnLexicalBytesIsControlsPlusQuotesAndBackslashesSaid : Prop := fnLexicalBytesIsControlsPlusQuotesAndBackslashesRow.holds Trym.pinned (OpenSpec.ofChange fnLexicalBytesIsControlsPlusQuotesAndBackslashesSpec)

/-- ITS FALSE NEIGHBOUR: 'it returns false'. Refute it at one input. -/
def fnLexicalBytesIsControlsPlusQuotesAndBackslashesWrong : ChangeSpec := { name := "fnLexicalBytesIsControlsPlusQuotesAndBackslashes", fn := fun _ => fun
  | [d] => { results := [.lit (.bool false)], args := [d] }
  | _ => none }
def FnLexicalBytesIsControlsPlusQuotesAndBackslashesWrongFalsely : Prop := fnLexicalBytesIsControlsPlusQuotesAndBackslashesRow.holds Trym.pinned (OpenSpec.ofChange fnLexicalBytesIsControlsPlusQuotesAndBackslashesWrong)

/-- 'zzlaws_pkg_quickjson_b1.FnLexicalBytesIsBytewiseAtAnyCut': WHATEVER THE INPUT: true; the input reads as it did. -/
def fnLexicalBytesIsBytewiseAtAnyCutSpec : ChangeSpec := { name := "fnLexicalBytesIsBytewiseAtAnyCut", fn := fun _ => fun
  | [d1, d2] => { results := [.lit (.bool true)], args := [d1, d2] }
  | _ => none }
def fnLexicalBytesIsBytewiseAtAnyCutRow : OpenClaim := { program := "qxb6612623amods", sum := "60d3b097ff3b7a9ea3312c4df61d2344e499ea8d60500d098cc7547ec1e7317b", func := "example.com/allotgate/allotgate/zzlaws_pkg_quickjson_b1.FnLexicalBytesIsBytewiseAtAnyCut", spec := "fnLexicalBytesIsBytewiseAtAnyCut", make := .lifted ["publicsums"], apart := false }
def FnLexicalBytesIsBytewiseAtAnyCutSaid : Prop := fnLexicalBytesIsBytewiseAtAnyCutRow.holds Trym.pinned (OpenSpec.ofChange fnLexicalBytesIsBytewiseAtAnyCutSpec)

/-- ITS FALSE NEIGHBOUR: 'it returns false'. Refute it at one input. -/
def fnLexicalBytesIsBytewiseAtAnyCutWrong : ChangeSpec := { name := "fnLexicalBytesIsBytewiseAtAnyCut", fn := fun _ => fun
  | [d1, d2] => { results := [.lit (.bool false)], args := [d1, d2] }
  | _ => none }
def FnLexicalBytesIsBytewiseAtAnyCutWrongFalsely : Prop := fnLexicalBytesIsBytewiseAtAnyCutRow.holds Trym.pinned (OpenSpec.ofChange fnLexicalBytesIsBytewiseAtAnyCutWrong)

end Rows
end Go.Proofs.Qxb6612623aMods
