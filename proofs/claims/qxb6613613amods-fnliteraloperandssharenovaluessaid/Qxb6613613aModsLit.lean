/- The callees of the law over literals: each with the world that it leaves. -/
import Derived.Test.Qxb6613613aModsRows
import Derived.WalkKit
import Derived.ProofKit
import Derived.OpenShut
import Derived.ShutString
import Derived.BigQuiet
namespace Go.Proofs.Qxb6613613aMods
open Go.ChangeShapes Go.WideShapes Go.ChangeAt Go.RowKit

theorem newlit_any (k b : Int) (d : ByteArray) (w : World) :
    Calls Trym.prog 14 #[.int .u8 k, .int .u64 b, .string d] w fun e w' => e = .returned (.agg #[.int .u8 k, .int .u64 b, .string d]) ∧ w' = w.alloc (.cells #[.int .u8 k, .int .u64 b, .string d] 38) := by
  go_enter Trym.func14, Trym.ntmps14
  go_wp2
  exact bodyPost_ret (v := .agg #[.int .u8 k, .int .u64 b, .string d]) (by simp [results, Trym.results14, go_sem]) rfl ⟨rfl, rfl⟩

theorem parts_any (k b : Int) (d : ByteArray) (w : World) :
    Calls Trym.prog 16 #[.agg #[.int .u8 k, .int .u64 b, .string d]] w fun e w' => e = .returned (.tuple #[.int .u8 k, .int .u64 b, .string d]) ∧ ∃ n, w' = (w.alloc (.cells #[.int .u8 k, .int .u64 b, .string d] 38)).drewN n := by
  go_enter Trym.func16, Trym.ntmps16
  go_wp2
  go_quiet (fail)
  go_wp2
  go_ret3
  exact ⟨rfl, _, rfl⟩

def litWorld (k b : Int) (d : ByteArray) (w : World) : World :=
  ((w.alloc (.cells #[.int .u8 k, .int .u64 b, .string d] 38)).alloc
    (.cells #[.int .i64 (-1), .string ⟨#[]⟩, .slice (some ⟨w.heap.size + 1 + 1, 0, none⟩) 1 1] 46)).alloc
    (.cells #[.int .u8 k, .int .u64 b, .string d] 38)

theorem lit_any (k b : Int) (d : ByteArray) (w : World) :
    Calls Trym.prog 18 #[.agg #[.int .u8 k, .int .u64 b, .string d]] w fun e w' => e = .returned (.agg #[.int .i64 (-1), .string ⟨#[]⟩, .slice (some ⟨w.heap.size + 1 + 1, 0, none⟩) 1 1]) ∧ w' = litWorld k b d w := by
  go_enter Trym.func18, Trym.ntmps18
  go_wp2
  exact bodyPost_ret (v := .agg #[.int .i64 (-1), .string ⟨#[]⟩, .slice (some ⟨w.heap.size + 1 + 1, 0, none⟩) 1 1]) (by simp [results, Trym.results18, go_sem]) rfl ⟨rfl, rfl⟩

def opWorld (k b : Int) (d : ByteArray) (w : World) : World :=
  ((((w.alloc (.cells #[.int .u8 k, .int .u64 b, .string d] 38)).alloc (.cells #[.int .u8 k, .int .u64 b, .string d] 38)).alloc
    (.cells #[.int .i64 (-1), .string ⟨#[]⟩, .slice (some ⟨w.heap.size + 1 + 1 + 1, 0, none⟩) 1 1] 46)).alloc
    (.cells #[.int .u8 k, .int .u64 b, .string d] 38)).alloc (.cells #[.int .i64 (-1), .string ⟨#[]⟩, .slice (some ⟨w.heap.size + 1 + 1 + 1, 0, none⟩) 1 1] 46)

set_option maxHeartbeats 400000 in
theorem op_any (k b : Int) (d : ByteArray) (w : World) :
    Calls Trym.prog 15 #[.agg #[.int .u8 k, .int .u64 b, .string d]] w fun e w' => e = .returned (.tuple #[.int .i64 (-1), .string ⟨#[]⟩, .slice (some ⟨w.heap.size + 1 + 1 + 1, 0, none⟩) 1 1]) ∧ ∃ n, w' = (opWorld k b d w).drewN n := by
  go_enter Trym.func15, Trym.ntmps15
  go_wp2_with fail
  refine (lit_any _ _ _ _).mono ?_
  rintro e w' ⟨rfl, rfl⟩
  simp only [litWorld]
  go_wp2
  go_quiet (fail)
  go_wp2
  go_ret3
  exact ⟨rfl, _, rfl⟩
end Go.Proofs.Qxb6613613aMods
