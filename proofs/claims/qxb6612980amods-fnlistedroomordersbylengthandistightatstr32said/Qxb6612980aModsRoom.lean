/- The callees of the two laws: the room of a listed id, and msgpack's room of a string of n bytes. -/
import Derived.Test.Qxb6612980aModsRows
import Derived.WalkKit
import Derived.ProofKit
import Derived.OpenShut
import Derived.ShutString
namespace Go.Proofs.Qxb6612980aMods
open Go.ChangeShapes Go.WideShapes Go.ChangeAt Go.RowKit

/-- msgpack's room of a string of n bytes -/
def mroom (n : Int) : Int := if n < 32 then 1 + n else if n < 256 then 2 + n else if n < 65536 then 3 + n else 5 + n

theorem room_any (s : ByteArray) (h : s.size ≤ 1048576) (w : World) :
    Calls Trym.prog 6 #[.string s] w fun e w' => e = .returned (.int .i64 (5 + s.size + 9)) ∧ w' = w := by
  go_enter Trym.func6, Trym.ntmps6
  go_wp2
  go_ret
  exact ⟨rfl, rfl⟩

theorem mroom_any (n : Int) (h0 : 0 ≤ n) (h : n ≤ 1048576) (w : World) :
    Calls Trym.prog 7 #[.int .i64 n] w fun e w' => e = .returned (.int .i64 (mroom n)) ∧ w' = w := by
  by_cases h1 : n < 32
  · have e : Hid (mroom n = 1 + n) := by show mroom n = 1 + n; simp [mroom, h1]
    go_enter Trym.func7, Trym.ntmps7
    go_wp2
    go_ret
    exact ⟨by rw [e.out]; rfl, rfl⟩
  · by_cases h2 : n < 256
    · have e : Hid (mroom n = 2 + n) := by show mroom n = 2 + n; simp [mroom, h1, h2]
      go_enter Trym.func7, Trym.ntmps7
      go_wp2
      go_ret
      exact ⟨by rw [e.out]; rfl, rfl⟩
    · by_cases h3 : n < 65536
      · have e : Hid (mroom n = 3 + n) := by show mroom n = 3 + n; simp [mroom, h1, h2, h3]
        go_enter Trym.func7, Trym.ntmps7
        go_wp2
        go_ret
        exact ⟨by rw [e.out]; rfl, rfl⟩
      · have e : Hid (mroom n = 5 + n) := by show mroom n = 5 + n; simp [mroom, h1, h2, h3]
        go_enter Trym.func7, Trym.ntmps7
        go_wp2
        go_ret
        exact ⟨by rw [e.out]; rfl, rfl⟩

end Go.Proofs.Qxb6612980aMods
