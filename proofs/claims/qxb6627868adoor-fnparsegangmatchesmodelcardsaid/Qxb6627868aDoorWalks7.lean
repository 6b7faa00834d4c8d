/- SEAT b6627868aD, WALKS 7: gangCountFault, parseGangModel. -/
import Derived.Test.Qxb6627868aDoorWalks6
import Derived.Test.Qxb6627868aDoorWalks4
namespace Go.Proofs.Qxb6627868aDoor
open Go.ChangeShapes Go.WideShapes Go.ChangeAt Go.RowKit

theorem size33 : (Tryd.prog.info? 33).map (·.size) = some 7 := by kernel_rfl

set_option maxHeartbeats 400000 in
theorem fault_zero (st : Int) (s id lab : ByteArray) (c m : Int) (w : World) :
    Calls Tryd.prog 12 #[.int .i64 1, .int .i64 st, .string s, .agg (gcells id c m lab)] w fun e w' => e = .returned (.agg (fcells 3 st s id c m lab)) ∧ Below w.heap.size w w' := by
  go_enter Tryd.func12, Tryd.ntmps12
  go_wp2
  refine bodyPost_ret (results_cell_row rfl _ _ (w.heap.size + 1) 33 (fcells 3 st s id c m lab) (0, 0) _ rfl (heap_alloc2_new w _ _) Tryd.underlying33 rfl size33) rfl ⟨rfl, ?_⟩
  exact ((Below.refl _ _).alloc (Nat.le_refl _) _).alloc (by simp) _

set_option maxHeartbeats 400000 in
theorem fault_whole (st : Int) (s id lab : ByteArray) (c m : Int) (w : World) :
    Calls Tryd.prog 12 #[.int .i64 0, .int .i64 st, .string s, .agg (gcells id c m lab)] w fun e w' => e = .returned (.agg (fcells 2 st s id c m lab)) ∧ Below w.heap.size w w' := by
  go_enter Tryd.func12, Tryd.ntmps12
  go_wp2
  refine bodyPost_ret (results_cell_row rfl _ _ (w.heap.size + 1) 33 (fcells 2 st s id c m lab) (0, 0) _ rfl (heap_alloc2_new w _ _) Tryd.underlying33 rfl size33) rfl ⟨rfl, ?_⟩
  exact ((Below.refl _ _).alloc (Nat.le_refl _) _).alloc (by simp) _

end Go.Proofs.Qxb6627868aDoor
