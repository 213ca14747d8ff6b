/-
  No cell of these rows narrows 'for every input' (looked for: loops, veiled, ifaces, maps, wideKeys, modest, calm, conditions, laid).
  DERIVED. THE GIVEN ROWS OF THIS SEAT. 3 by the template 'for every input the law returns true; each argument reads behind the call as it read before'; 0 by the template 'total and deterministic' (their statements: Qxb6003132aModsTotals.lean).
  GIVEN WITH THE SEED: the statements are not yours to turn. If you find one false, say at which input.
  Laid BY PROGRAM, IN A SANDBOX (cutbox-rows.mjs): the forced cells as the released guide's own fill.sh prints them over the translation b235e8d875955351… (all of the seat's roots in one cut). By AI agents, Wed Nov 11 2026. No macro, syntax, notation, axiom, sorry.
-/
import Derived.Test.Qxb6003132aModsChecked
import GoSem.Claim
import GoSem.ClaimJoined
import GoSem.ClaimMapViews
import Derived.JoinedTies
import Derived.KernelRfl
namespace Go.Proofs.Qxb6003132aMods
/- THE CELL 'sum', in the pinned program and in every row, IS THE sha256 OF THE DUMP (.gsa) THAT Qxb6003132aModsProg.lean LOADS. Nothing in Lean hashes anything: it is a label: what it is worth is what the hold of that sum in a sandbox is worth. -/
noncomputable def Trym.pinned : Pinned := { name := "qxb6003132amods", sum := "b235e8d875955351294d44b183bb42b7bf5520cad586bb42465bff6e16713d65", checked := Trym.checked }
namespace Rows
def none {H : Type} : Left H := { results := [], args := [] }

/-- 'zzlaws_root_b1.FnNewGivingMarksExactlyTheListed': WHATEVER THE INPUT: true; the input reads as it did. -/
def fnNewGivingMarksExactlyTheListedSpec : ChangeSpec := { name := "fnNewGivingMarksExactlyTheListed", fn := fun _ => fun
  | [d1, d2] => { results := [.lit (.bool true)], args := [d1, d2] }
  | _ => none }
def fnNewGivingMarksExactlyTheListedRow : OpenClaim := { program := "qxb6003132amods", sum := "b235e8d875955351294d44b183bb42b7bf5520cad586bb42465bff6e16713d65", func := "example.com/duties-over-partitions/duties-over-partitions/zzlaws_root_b1.FnNewGivingMarksExactlyTheListed", spec := "fnNewGivingMarksExactlyTheListed", recurses := true, make := .lifted ["publicsums"], apart := false }
def FnNewGivingMarksExactlyTheListedSaid : Prop := fnNewGivingMarksExactlyTheListedRow.holds Trym.pinned (OpenSpec.ofChange fnNewGivingMarksExactlyTheListedSpec)

/-- ITS FALSE NEIGHBOUR: 'it returns false'. Refute it at one input. -/
def fnNewGivingMarksExactlyTheListedWrong : ChangeSpec := { name := "fnNewGivingMarksExactlyTheListed", fn := fun _ => fun
  | [d1, d2] => { results := [.lit (.bool false)], args := [d1, d2] }
  | _ => none }
def FnNewGivingMarksExactlyTheListedWrongFalsely : Prop := fnNewGivingMarksExactlyTheListedRow.holds Trym.pinned (OpenSpec.ofChange fnNewGivingMarksExactlyTheListedWrong)

/-- 'zzlaws_root_b1.FnChainsAreFewestMovePaths': WHATEVER THE INPUT: true; the input reads as it did. -/
def fnChainsAreFewestMovePathsSpec : ChangeSpec := { name := "fnChainsAreFewestMovePaths", fn := fun _ => fun
  | [d1, d2, d3, d4, d5, d6] => { results := [.lit (.bool true)], args := [d1, d2, d3, d4, d5, d6] }
  | _ => none }
def fnChainsAreFewestMovePathsRow : OpenClaim := { program := "qxb6003132amods", sum := "b235e8d875955351294d44b183bb42b7bf5520cad586bb42465bff6e16713d65", func := "example.com/duties-over-partitions/duties-over-partitions/zzlaws_root_b1.FnChainsAreFewestMovePaths", spec := "fnChainsAreFewestMovePaths", make := .lifted ["publicsums"], apart := false }
def FnChainsAreFewestMovePathsSaid : Prop := fnChainsAreFewestMovePathsRow.holds Trym.pinned (OpenSpec.ofChange fnChainsAreFewestMovePathsSpec)

/-- ITS FALSE NEIGHBOUR: 'it returns false'. Refute it at one input. -/
def fnChainsAreFewestMovePathsWrong : ChangeSpec := { name := "fnChainsAreFewestMovePaths", fn := fun _ => fun
  | [d1, d2, d3, d4, d5, d6] => { results := [.lit (.bool false)], args := [d1, d2, d3, d4, d5, d6] }
  | _ => none }
def FnChainsAreFewestMovePathsWrongFalsely : Prop := fnChainsAreFewestMovePathsRow.holds Trym.pinned (OpenSpec.ofChange fnChainsAreFewestMovePathsWrong)

/-- 'zzlaws_root_b1.FnBalanceLeavesNoSteepHop': WHATEVER THE INPUT: true; the input reads as it did. -/
def fnBalanceLeavesNoSteepHopSpec : ChangeSpec := { name := "fnBalanceLeavesNoSteepHop", fn := fun _ => fun
  | [d1, d2, d3, d4] => { results := [.lit (.bool true)], args := [d1, d2, d3, d4] }
  | _ => none }
def fnBalanceLeavesNoSteepHopRow : OpenClaim := { program := "qxb6003132amods", sum := "b235e8d875955351294d44b183bb42b7bf5520cad586bb42465bff6e16713d65", func := "example.com/duties-over-partitions/duties-over-partitions/zzlaws_root_b1.FnBalanceLeavesNoSteepHop", spec := "fnBalanceLeavesNoSteepHop", unfollowed := true, recurses := true, make := .lifted ["publicsums"], apart := false }
def FnBalanceLeavesNoSteepHopSaid : Prop := fnBalanceLeavesNoSteepHopRow.holds Trym.pinned (OpenSpec.ofChange fnBalanceLeavesNoSteepHopSpec)

/-- ITS FALSE NEIGHBOUR: 'it returns false'. Refute it at one input. -/
def fnBalanceLeavesNoSteepHopWrong : ChangeSpec := { name := "fnBalanceLeavesNoSteepHop", fn := fun _ => fun
  | [d1, d2, d3, d4] => { results := [.lit (.bool false)], args := [d1, d2, d3, d4] }
  | _ => none }
def FnBalanceLeavesNoSteepHopWrongFalsely : Prop := fnBalanceLeavesNoSteepHopRow.holds Trym.pinned (OpenSpec.ofChange fnBalanceLeavesNoSteepHopWrong)

end Rows
end Go.Proofs.Qxb6003132aMods
