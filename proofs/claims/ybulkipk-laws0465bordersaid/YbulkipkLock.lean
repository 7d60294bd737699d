/-
  The contract of 'atLockPointOf' (function 12): the gap and the order, each under a name of its own.
-/
import Derived.Test.YbulkipkRows
import Derived.WalkKit
import Derived.ProofKit
import Derived.WalkLawsBesides
namespace Go.Proofs.Ybulkipk
open Go.ChangeShapes Go.WideShapes Go.ChangeAt Go.RowKit
def gapOf (p : Int) : Int := wrap32 (wrap64 (p + 1))
def ordF (r : Int) : Int := bits .or .u64 4294967296 (IntKind.u64.wrap (IntKind.u64.wrap r * 2))
def ordT (r : Int) : Int := bits .or .u64 (ordF r) 1
set_option maxHeartbeats 400000 in
theorem lock_false (p r : Int) (w : World) :
    Calls Yba.prog 12 #[.int .i64 p, .int .i64 r, .bool false] w fun e w' => e = .returned (.agg #[.int .i32 (gapOf p), .int .u64 (ordF r)]) ∧ ∃ c1 c2, w' = (w.alloc (.cells c1 35)).alloc (.cells c2 35) := by
  go_enter Yba.func12, Yba.ntmps12
  go_wp2
  exact bodyPost_ret (v := .agg #[.int .i32 (gapOf p), .int .u64 (ordF r)]) (by simp [results, Yba.results12, go_sem, gapOf, ordF]) rfl ⟨rfl, _, _, rfl⟩
set_option maxHeartbeats 400000 in
theorem lock_true (p r : Int) (w : World) :
    Calls Yba.prog 12 #[.int .i64 p, .int .i64 r, .bool true] w fun e w' => e = .returned (.agg #[.int .i32 (gapOf p), .int .u64 (ordT r)]) ∧ ∃ c1 c2, w' = (w.alloc (.cells c1 35)).alloc (.cells c2 35) := by
  go_enter Yba.func12, Yba.ntmps12
  go_wp2
  exact bodyPost_ret (v := .agg #[.int .i32 (gapOf p), .int .u64 (ordT r)]) (by simp [results, Yba.results12, go_sem, gapOf, ordT, ordF]) rfl ⟨rfl, _, _, rfl⟩
end Go.Proofs.Ybulkipk
