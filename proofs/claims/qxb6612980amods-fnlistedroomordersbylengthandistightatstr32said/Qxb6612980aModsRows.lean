/-
  No cell of these rows narrows 'for every input' (looked for: loops, veiled, ifaces, maps, wideKeys, modest, calm, conditions, laid).
  DERIVED. THE GIVEN ROWS OF THIS SEAT. 2 by the template 'for every input the law returns true; each argument reads behind the call as it read before'; 0 by the template 'total and deterministic' (their statements: Qxb6612980aModsTotals.lean).
  GIVEN WITH THE SEED: the statements are not yours to turn. If you find one false, say at which input.
  Laid BY PROGRAM, IN A SANDBOX (cutbox-rows.mjs): the forced cells as the released guide's own fill.sh prints them over the translation 9ff745f60388aff1… (all of the seat's roots in one cut). By AI agents, Wed Nov 11 2026. No macro, syntax, notation, axiom, sorry.
-/
import Derived.Test.Qxb6612980aModsChecked
import GoSem.Claim
import GoSem.ClaimJoined
import GoSem.ClaimMapViews
import Derived.JoinedTies
import Derived.KernelRfl
namespace Go.Proofs.Qxb6612980aMods
/- THE CELL 'sum', in the pinned program and in every row, IS THE sha256 OF THE DUMP (.gsa) THAT Qxb6612980aModsProg.lean LOADS. Nothing in Lean hashes anything: it is a label: what it is worth is what the hold of that sum in a sandbox is worth. -/
noncomputable def Trym.pinned : Pinned := { name := "qxb6612980amods", sum := "9ff745f60388aff1b0a68aa35d44b610ef22d278c9a034e2d479ddaa45e0275e", checked := Trym.checked }
namespace Rows
def none {H : Type} : Left H := { results := [], args := [] }

/-- 'zzlaws_root_b1.FnListedRoomJoinsAndHoldsTheId': WHATEVER THE INPUT: true; the input reads as it did. -/
def fnListedRoomJoinsAndHoldsTheIdSpec : ChangeSpec := { name := "fnListedRoomJoinsAndHoldsTheId", fn := fun _ => fun
  | [d1, d2] => { results := [.lit (.bool true)], args := [d1, d2] }
  | _ => none }
def fnListedRoomJoinsAndHoldsTheIdRow : OpenClaim := { program := "qxb6612980amods", sum := "9ff745f60388aff1b0a68aa35d44b610ef22d278c9a034e2d479ddaa45e0275e", func := "example.com/knotwise/knotwise/zzlaws_root_b1.FnListedRoomJoinsAndHoldsTheId", spec := "fnListedRoomJoinsAndHoldsTheId", make := .lifted ["publicsums"], apart := false }
def FnListedRoomJoinsAndHoldsTheIdSaid : Prop := fnListedRoomJoinsAndHoldsTheIdRow.holds Trym.pinned (OpenSpec.ofChange fnListedRoomJoinsAndHoldsTheIdSpec)

/-- ITS FALSE NEIGHBOUR: 'it returns false'. Refute it at one input. -/
def fnListedRoomJoinsAndHoldsTheIdWrong : ChangeSpec := { name := "fnListedRoomJoinsAndHoldsTheId", fn := fun _ => fun
  | [d1, d2] => { results := [.lit (.bool false)], args := [d1, d2] }
  | _ => none }
def FnListedRoomJoinsAndHoldsTheIdWrongFalsely : Prop := fnListedRoomJoinsAndHoldsTheIdRow.holds Trym.pinned (OpenSpec.ofChange fnListedRoomJoinsAndHoldsTheIdWrong)

/-- 'zzlaws_root_b1.FnListedRoomOrdersByLengthAndIsTightAtStr32': WHATEVER THE INPUT: true; the input reads as it did. -/
def fnListedRoomOrdersByLengthAndIsTightAtStr32Spec : ChangeSpec := { name := "fnListedRoomOrdersByLengthAndIsTightAtStr32", fn := fun _ => fun
  | [d1, d2] => { results := [.lit (.bool true)], args := [d1, d2] }
  | _ => none }
def fnListedRoomOrdersByLengthAndIsTightAtStr32Row : OpenClaim := { program := "qxb6612980amods", sum := "9ff745f60388aff1b0a68aa35d44b610ef22d278c9a034e2d479ddaa45e0275e", func := "example.com/knotwise/knotwise/zzlaws_root_b1.FnListedRoomOrdersByLengthAndIsTightAtStr32", spec := "fnListedRoomOrdersByLengthAndIsTightAtStr32", make := .lifted ["publicsums"], apart := false }
def FnListedRoomOrdersByLengthAndIsTightAtStr32Said : Prop := fnListedRoomOrdersByLengthAndIsTightAtStr32Row.holds Trym.pinned (OpenSpec.ofChange fnListedRoomOrdersByLengthAndIsTightAtStr32Spec)

/-- ITS FALSE NEIGHBOUR: 'it returns false'. Refute it at one input. -/
def fnListedRoomOrdersByLengthAndIsTightAtStr32Wrong : ChangeSpec := { name := "fnListedRoomOrdersByLengthAndIsTightAtStr32", fn := fun _ => fun
  | [d1, d2] => { results := [.lit (.bool false)], args := [d1, d2] }
  | _ => none }
def FnListedRoomOrdersByLengthAndIsTightAtStr32WrongFalsely : Prop := fnListedRoomOrdersByLengthAndIsTightAtStr32Row.holds Trym.pinned (OpenSpec.ofChange fnListedRoomOrdersByLengthAndIsTightAtStr32Wrong)

end Rows
end Go.Proofs.Qxb6612980aMods
