import Derived.Test.Qxb6002353aPass
import Derived.Test.Qxb6002353aAns
namespace Go.Proofs.Qxb6002353a
open Go.RowKit Go.Maps

def I64s (w : World) (e : Ending) (w' : World) : Prop := ∃ z : Int, e = .returned (.int .i64 z) ∧ w' = w

set_option maxHeartbeats 4000000 in
theorem ones_any (x : Int) (w : World) : Calls Try.prog 34 #[.int .u64 x] w (I64s w) := by
  go_enter Try.func34, Try.ntmps34
  go_wp2_with fail
  go_ret
  exact ⟨_, rfl, rfl⟩
end Go.Proofs.Qxb6002353a
