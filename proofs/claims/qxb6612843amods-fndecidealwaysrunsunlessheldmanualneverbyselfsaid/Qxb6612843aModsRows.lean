/-
  No cell of these rows narrows 'for every input' (looked for: loops, veiled, ifaces, maps, wideKeys, modest, calm, conditions, laid).
  DERIVED. THE GIVEN ROWS OF THIS SEAT. 2 by the template 'for every input the law returns true; each argument reads behind the call as it read before'; 0 by the template 'total and deterministic' (their statements: Qxb6612843aModsTotals.lean).
  GIVEN WITH THE SEED: the statements are not yours to turn. If you find one false, say at which input.
  Laid BY PROGRAM, IN A SANDBOX (cutbox-rows.mjs): the forced cells as the released guide's own fill.sh prints them over the translation d7cfd8b2e151db0e… (all of the seat's roots in one cut). By AI agents, Wed Nov 11 2026. No macro, syntax, notation, axiom, sorry.
-/
import Derived.Test.Qxb6612843aModsChecked
import GoSem.Claim
import GoSem.ClaimJoined
import GoSem.ClaimMapViews
import Derived.JoinedTies
import Derived.KernelRfl
namespace Go.Proofs.Qxb6612843aMods
/- THE CELL 'sum', in the pinned program and in every row, IS THE sha256 OF THE DUMP (.gsa) THAT Qxb6612843aModsProg.lean LOADS. Nothing in Lean hashes anything: it is a label: what it is worth is what the hold of that sum in a sandbox is worth. -/
noncomputable def Trym.pinned : Pinned := { name := "qxb6612843amods", sum := "d7cfd8b2e151db0e354564b6eee2910088e26886925e65e214ee3170e523dc97", checked := Trym.checked }
namespace Rows
def none {H : Type} : Left H := { results := [], args := [] }

/-- 'zzlaws_runner_b1.FnDecideOnSuccessAndOnFailureTwins': WHATEVER THE INPUT: true; the input reads as it did. -/
def fnDecideOnSuccessAndOnFailureTwinsSpec : ChangeSpec := { name := "fnDecideOnSuccessAndOnFailureTwins", fn := fun _ => fun
  | [d1, d2, d3, d4] => { results := [.lit (.bool true)], args := [d1, d2, d3, d4] }
  | _ => none }
def fnDecideOnSuccessAndOnFailureTwinsRow : OpenClaim := { program := "qxb6612843amods", sum := "d7cfd8b2e151db0e354564b6eee2910088e26886925e65e214ee3170e523dc97", func := "example.com/stagecraft/stagecraft/zzlaws_runner_b1.FnDecideOnSuccessAndOnFailureTwins", spec := "fnDecideOnSuccessAndOnFailureTwins", make := .lifted ["publicsums"], apart := false }
def FnDecideOnSuccessAndOnFailureTwinsSaid : Prop := fnDecideOnSuccessAndOnFailureTwinsRow.holds Trym.pinned (OpenSpec.ofChange fnDecideOnSuccessAndOnFailureTwinsSpec)

/-- ITS FALSE NEIGHBOUR: 'it returns false'. Refute it at one input. -/
def fnDecideOnSuccessAndOnFailureTwinsWrong : ChangeSpec := { name := "fnDecideOnSuccessAndOnFailureTwins", fn := fun _ => fun
  | [d1, d2, d3, d4] => { results := [.lit (.bool false)], args := [d1, d2, d3, d4] }
  | _ => none }
def FnDecideOnSuccessAndOnFailureTwinsWrongFalsely : Prop := fnDecideOnSuccessAndOnFailureTwinsRow.holds Trym.pinned (OpenSpec.ofChange fnDecideOnSuccessAndOnFailureTwinsWrong)

/-- 'zzlaws_runner_b1.FnDecideAlwaysRunsUnlessHeldManualNeverBySelf': WHATEVER THE INPUT: true; the input reads as it did. -/
def fnDecideAlwaysRunsUnlessHeldManualNeverBySelfSpec : ChangeSpec := { name := "fnDecideAlwaysRunsUnlessHeldManualNeverBySelf", fn := fun _ => fun
  | [d1, d2, d3, d4] => { results := [.lit (.bool true)], args := [d1, d2, d3, d4] }
  | _ => none }
def fnDecideAlwaysRunsUnlessHeldManualNeverBySelfRow : OpenClaim := { program := "qxb6612843amods", sum := "d7cfd8b2e151db0e354564b6eee2910088e26886925e65e214ee3170e523dc97", func := "example.com/stagecraft/stagecraft/zzlaws_runner_b1.FnDecideAlwaysRunsUnlessHeldManualNeverBySelf", spec := "fnDecideAlwaysRunsUnlessHeldManualNeverBySelf", make := .lifted ["publicsums"], apart := false }
def FnDecideAlwaysRunsUnlessHeldManualNeverBySelfSaid : Prop := fnDecideAlwaysRunsUnlessHeldManualNeverBySelfRow.holds Trym.pinned (OpenSpec.ofChange fnDecideAlwaysRunsUnlessHeldManualNeverBySelfSpec)

/-- ITS FALSE NEIGHBOUR: 'it returns false'. Refute it at one input. -/
def fnDecideAlwaysRunsUnlessHeldManualNeverBySelfWrong : ChangeSpec := { name := "fnDecideAlwaysRunsUnlessHeldManualNeverBySelf", fn := fun _ => fun
  | [d1, d2, d3, d4] => { results := [.lit (.bool false)], args := [d1, d2, d3, d4] }
  | _ => none }
def FnDecideAlwaysRunsUnlessHeldManualNeverBySelfWrongFalsely : Prop := fnDecideAlwaysRunsUnlessHeldManualNeverBySelfRow.holds Trym.pinned (OpenSpec.ofChange fnDecideAlwaysRunsUnlessHeldManualNeverBySelfWrong)

end Rows
end Go.Proofs.Qxb6612843aMods
