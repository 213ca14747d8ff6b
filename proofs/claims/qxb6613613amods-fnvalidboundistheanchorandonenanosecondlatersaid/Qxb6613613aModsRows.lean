/-
  No cell of these rows narrows 'for every input' (looked for: loops, veiled, ifaces, maps, wideKeys, modest, calm, conditions, laid).
  DERIVED. THE GIVEN ROWS OF THIS SEAT. 3 by the template 'for every input the law returns true; each argument reads behind the call as it read before'; 0 by the template 'total and deterministic' (their statements: Qxb6613613aModsTotals.lean).
  GIVEN WITH THE SEED: the statements are not yours to turn. If you find one false, say at which input.
  Laid BY PROGRAM, IN A SANDBOX (cutbox-rows.mjs): the forced cells as the released guide's own fill.sh prints them over the translation a23d8b696ec57494… (all of the seat's roots in one cut). By AI agents, Wed Nov 11 2026. No macro, syntax, notation, axiom, sorry.
-/
import Derived.Test.Qxb6613613aModsChecked
import GoSem.Claim
import GoSem.ClaimJoined
import GoSem.ClaimMapViews
import Derived.JoinedTies
import Derived.KernelRfl
namespace Go.Proofs.Qxb6613613aMods
/- THE CELL 'sum', in the pinned program and in every row, IS THE sha256 OF THE DUMP (.gsa) THAT Qxb6613613aModsProg.lean LOADS. Nothing in Lean hashes anything: it is a label: what it is worth is what the hold of that sum in a sandbox is worth. -/
noncomputable def Trym.pinned : Pinned := { name := "qxb6613613amods", sum := "a23d8b696ec57494a524c9e3ea94597eaa8a79d5cfb545686d9bca8b56b9bbc6", checked := Trym.checked }
namespace Rows
def none {H : Type} : Left H := { results := [], args := [] }

/-- 'zzlaws_root_b1.FnValidBoundHoldsExactlyAtItsAnchor': WHATEVER THE INPUT: true; the input reads as it did. -/
def fnValidBoundHoldsExactlyAtItsAnchorSpec : ChangeSpec := { name := "fnValidBoundHoldsExactlyAtItsAnchor", fn := fun _ => fun
  | [d1, d2, d3, d4, d5, d6] => { results := [.lit (.bool true)], args := [d1, d2, d3, d4, d5, d6] }
  | _ => none }
def fnValidBoundHoldsExactlyAtItsAnchorRow : OpenClaim := { program := "qxb6613613amods", sum := "a23d8b696ec57494a524c9e3ea94597eaa8a79d5cfb545686d9bca8b56b9bbc6", func := "example.com/eonweave/eonweave/zzlaws_root_b1.FnValidBoundHoldsExactlyAtItsAnchor", spec := "fnValidBoundHoldsExactlyAtItsAnchor", make := .lifted ["publicsums"], apart := false }
def FnValidBoundHoldsExactlyAtItsAnchorSaid : Prop := fnValidBoundHoldsExactlyAtItsAnchorRow.holds Trym.pinned (OpenSpec.ofChange fnValidBoundHoldsExactlyAtItsAnchorSpec)

/-- ITS FALSE NEIGHBOUR: 'it returns false'. Refute it at one input. -/
def fnValidBoundHoldsExactlyAtItsAnchorWrong : ChangeSpec := { name := "fnValidBoundHoldsExactlyAtItsAnchor", fn := fun _ => fun
  | [d1, d2, d3, d4, d5, d6] => { results := [.lit (.bool false)], args := [d1, d2, d3, d4, d5, d6] }
  | _ => none }
def FnValidBoundHoldsExactlyAtItsAnchorWrongFalsely : Prop := fnValidBoundHoldsExactlyAtItsAnchorRow.holds Trym.pinned (OpenSpec.ofChange fnValidBoundHoldsExactlyAtItsAnchorWrong)

/-- 'zzlaws_root_b1.FnValidBoundIsTheAnchorAndOneNanosecondLater': WHATEVER THE INPUT: true; the input reads as it did. -/
def fnValidBoundIsTheAnchorAndOneNanosecondLaterSpec : ChangeSpec := { name := "fnValidBoundIsTheAnchorAndOneNanosecondLater", fn := fun _ => fun
  | [d1, d2, d3, d4, d5] => { results := [.lit (.bool true)], args := [d1, d2, d3, d4, d5] }
  | _ => none }
def fnValidBoundIsTheAnchorAndOneNanosecondLaterRow : OpenClaim := { program := "qxb6613613amods", sum := "a23d8b696ec57494a524c9e3ea94597eaa8a79d5cfb545686d9bca8b56b9bbc6", func := "example.com/eonweave/eonweave/zzlaws_root_b1.FnValidBoundIsTheAnchorAndOneNanosecondLater", spec := "fnValidBoundIsTheAnchorAndOneNanosecondLater", make := .lifted ["publicsums"], apart := false }
def FnValidBoundIsTheAnchorAndOneNanosecondLaterSaid : Prop := fnValidBoundIsTheAnchorAndOneNanosecondLaterRow.holds Trym.pinned (OpenSpec.ofChange fnValidBoundIsTheAnchorAndOneNanosecondLaterSpec)

/-- ITS FALSE NEIGHBOUR: 'it returns false'. Refute it at one input. -/
def fnValidBoundIsTheAnchorAndOneNanosecondLaterWrong : ChangeSpec := { name := "fnValidBoundIsTheAnchorAndOneNanosecondLater", fn := fun _ => fun
  | [d1, d2, d3, d4, d5] => { results := [.lit (.bool false)], args := [d1, d2, d3, d4, d5] }
  | _ => none }
def FnValidBoundIsTheAnchorAndOneNanosecondLaterWrongFalsely : Prop := fnValidBoundIsTheAnchorAndOneNanosecondLaterRow.holds Trym.pinned (OpenSpec.ofChange fnValidBoundIsTheAnchorAndOneNanosecondLaterWrong)

/-- 'zzlaws_root_b1.FnLiteralOperandsShareNoValues': WHATEVER THE INPUT: true; the input reads as it did. -/
def fnLiteralOperandsShareNoValuesSpec : ChangeSpec := { name := "fnLiteralOperandsShareNoValues", fn := fun _ => fun
  | [d1, d2, d3, d4, d5, d6] => { results := [.lit (.bool true)], args := [d1, d2, d3, d4, d5, d6] }
  | _ => none }
def fnLiteralOperandsShareNoValuesRow : OpenClaim := { program := "qxb6613613amods", sum := "a23d8b696ec57494a524c9e3ea94597eaa8a79d5cfb545686d9bca8b56b9bbc6", func := "example.com/eonweave/eonweave/zzlaws_root_b1.FnLiteralOperandsShareNoValues", spec := "fnLiteralOperandsShareNoValues", make := .lifted ["publicsums"], apart := false }
def FnLiteralOperandsShareNoValuesSaid : Prop := fnLiteralOperandsShareNoValuesRow.holds Trym.pinned (OpenSpec.ofChange fnLiteralOperandsShareNoValuesSpec)

/-- ITS FALSE NEIGHBOUR: 'it returns false'. Refute it at one input. -/
def fnLiteralOperandsShareNoValuesWrong : ChangeSpec := { name := "fnLiteralOperandsShareNoValues", fn := fun _ => fun
  | [d1, d2, d3, d4, d5, d6] => { results := [.lit (.bool false)], args := [d1, d2, d3, d4, d5, d6] }
  | _ => none }
def FnLiteralOperandsShareNoValuesWrongFalsely : Prop := fnLiteralOperandsShareNoValuesRow.holds Trym.pinned (OpenSpec.ofChange fnLiteralOperandsShareNoValuesWrong)

end Rows
end Go.Proofs.Qxb6613613aMods
