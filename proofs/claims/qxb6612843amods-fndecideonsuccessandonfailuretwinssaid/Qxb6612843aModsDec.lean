import Derived.Test.Qxb6612843aModsRows
import Derived.WalkKit
import Derived.ProofKit
import Derived.OpenShut
import Derived.ShutString
import Derived.BigQuiet
namespace Go.Proofs.Qxb6612843aMods
open Go.ChangeShapes Go.WideShapes Go.ChangeAt Go.RowKit

/-- what 'decide' answers: the status -/
def dst (al on ma f h k : Bool) : Int :=
  if h && !f then 0 else if al then 1 else if on then 4 else if f || k then 4 else if ma then 5 else 1
def dok (al on ma f h k : Bool) : Bool :=
  if h && !f then false else if al then true else if on then f else if f || k then false else if ma then false else true

def Dec (s : ByteArray) (al on ma f h k : Bool) (w : World) : Prop :=
    Calls Trym.prog 6 #[.string s, .bool f, .bool h, .bool k] w fun e w' => e = .returned (.tuple #[.int .i64 (dst al on ma f h k), .bool (dok al on ma f h k)]) ∧ Grown w w'

set_option maxHeartbeats 1000000 in
theorem dec_any (s : ByteArray) (al on ma f h k : Bool) (w : World) (h1 : (s.toList == [97, 108, 119, 97, 121, 115]) = al) (h2 : (s.toList == [111, 110, 95, 102, 97, 105, 108, 117, 114, 101]) = on) (h3 : (s.toList == [109, 97, 110, 117, 97, 108]) = ma) :
    Dec s al on ma f h k w := by
  have go : ∀ f h, (h && !f) = false → Dec s al on ma f h k w := by
    intro f h hh
    cases al
    · cases on
      · cases f
        · cases h
          · cases k
            · cases ma
              all_goals
                clear hh
                unfold Dec
                go_enter Trym.func6, Trym.ntmps6
                go_wp2
                go_ret2
                exact ⟨rfl, by repeat (first | exact Grown.refl _ | apply Grown.drew | apply Grown.alloc)⟩
            · clear hh
              unfold Dec
              go_enter Trym.func6, Trym.ntmps6
              go_wp2
              go_ret2
              exact ⟨rfl, by repeat (first | exact Grown.refl _ | apply Grown.drew | apply Grown.alloc)⟩
          · cases hh
        · clear hh
          cases h
          all_goals
            unfold Dec
            go_enter Trym.func6, Trym.ntmps6
            go_wp2
            go_ret2
            exact ⟨rfl, by repeat (first | exact Grown.refl _ | apply Grown.drew | apply Grown.alloc)⟩
      · cases f <;> cases h <;> cases hh
        all_goals
          unfold Dec
          go_enter Trym.func6, Trym.ntmps6
          go_wp2
          go_quiet (fail)
          go_wp2
          go_ret2
          exact ⟨rfl, by repeat (first | exact Grown.refl _ | apply Grown.drew | apply Grown.alloc)⟩
    · cases f <;> cases h <;> cases hh
      all_goals
        unfold Dec
        go_enter Trym.func6, Trym.ntmps6
        go_wp2
        go_ret2
        exact ⟨rfl, by repeat (first | exact Grown.refl _ | apply Grown.drew | apply Grown.alloc)⟩
  cases f
  · cases h
    · exact go _ _ rfl
    · clear go
      unfold Dec
      go_enter Trym.func6, Trym.ntmps6
      go_wp2
      go_ret2
      exact ⟨rfl, by repeat (first | exact Grown.refl _ | apply Grown.drew | apply Grown.alloc)⟩
  · cases h <;> exact go _ _ rfl
end Go.Proofs.Qxb6612843aMods
