/- SEAT b6627778a, WALKS 1: (*Rules).Settings, (*Config).IntSettings. -/
import Derived.Test.Qxb6627778aBase
namespace Go.Proofs.Qxb6627778a
open Go.ChangeShapes Go.WideShapes Go.ChangeAt Go.RowKit

set_option maxHeartbeats 1000000 in
theorem settings_any (b : Nat) (w : World) :
    Calls Try.prog 11 #[.pointer (some ⟨b, 0, none⟩)] w fun e w' => e = .returned (.slice (some ⟨w.heap.size, 0, none⟩) 4 4) ∧ w' = (w.alloc (.cells (flat b rules).toArray 39)).drew := by
  go_enter Try.func11, Try.ntmps11
  go_wp2
  go_region
  go_wp2
  go_ret
  exact ⟨rfl, rfl⟩

theorem info39 : (Try.prog.info? 39).map (fun i => (i.zero, i.size, i.bytes)) = some (some (.agg #[.string ByteArray.empty, .string ByteArray.empty, .pointer none, .int .i64 0, .int .i64 0, .int .i64 0]), 6, 64) := by kernel_rfl

end Go.Proofs.Qxb6627778a
