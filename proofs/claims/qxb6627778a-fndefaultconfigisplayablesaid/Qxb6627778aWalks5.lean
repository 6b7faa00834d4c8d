/- SEAT b6627778a, WALKS 5: the law FnDefaultConfigIsPlayable. -/
import Derived.Test.Qxb6627778aWalks4
namespace Go.Proofs.Qxb6627778a
open Go.ChangeShapes Go.WideShapes Go.ChangeAt Go.RowKit

theorem add1 (w : World) : (binOp .add 24 (.float .f64 4606281698874543309) (.float .f64 4591870180066957722)).run Try.prog w = .ok (.float .f64 4607182418800017408) w := run_float_arith w .add 24 .f64 _ _ _ (by kernel_rfl)
theorem add2 (w : World) : (binOp .add 24 (.float .f64 4597166413228745425) (.float .f64 4598031104357200560)).run Try.prog w = .ok (.float .f64 4602102358420343488) w := run_float_arith w .add 24 .f64 _ _ _ (by kernel_rfl)
theorem add3 (w : World) : (binOp .add 24 (.float .f64 4602102358420343488) (.float .f64 4589052728140074739)).run Try.prog w = .ok (.float .f64 4602946332990512719) w := run_float_arith w .add 24 .f64 _ _ _ (by kernel_rfl)

set_option maxRecDepth 100000 in
set_option maxHeartbeats 4000000 in
theorem playable_walk (w : World) : Calls Try.prog 4 #[] w fun e w' => e = .returned (.bool true) ∧ Below w.heap.size w w' := by
  have c0 : cfg[0]? = some (.int .i64 40) := rfl
  have c1 : cfg[1]? = some (.int .i64 5) := rfl
  have c2 : cfg[2]? = some (.int .i64 10) := rfl
  have c3 : cfg[3]? = some (.int .i64 5) := rfl
  have c4 : cfg[4]? = some (.int .i64 15) := rfl
  have c5 : cfg[5]? = some (.int .i64 15) := rfl
  have c6 : cfg[6]? = some (.int .i64 3) := rfl
  have c7 : cfg[7]? = some (.int .i64 3) := rfl
  have c8 : cfg[8]? = some (.int .i64 3) := rfl
  have c9 : cfg[9]? = some (.int .i64 3) := rfl
  have c10 : cfg[10]? = some (.float .f64 4597166413228745425) := rfl
  have c11 : cfg[11]? = some (.float .f64 4598031104357200560) := rfl
  have c12 : cfg[12]? = some (.float .f64 4589052728140074739) := rfl
  have c13 : cfg[13]? = some (.bool true) := rfl
  have c14 : cfg[14]? = some (.int .i64 10) := rfl
  have c15 : cfg[15]? = some (.int .i64 300) := rfl
  have c16 : cfg[16]? = some (.int .i64 2) := rfl
  have c17 : cfg[17]? = some (.float .f64 4582862980812216730) := rfl
  have c18 : cfg[18]? = some (.float .f64 4606281698874543309) := rfl
  have c19 : cfg[19]? = some (.float .f64 4591870180066957722) := rfl
  have c20 : cfg[20]? = some (.int .i64 40) := rfl
  have c21 : cfg[21]? = some (.int .i64 40) := rfl
  have a1 := add1
  have a2 := add2
  have a3 := add3
  have o1 : FloatKind.f64.format.order 4607182418800017408 4607182409792818153 = some .gt := by kernel_rfl
  have o2 : FloatKind.f64.format.order 4607182418800017408 4607182423303617035 = some .lt := by kernel_rfl
  have o3 : FloatKind.f64.format.order 4606281698874543309 0 = some .gt := by kernel_rfl
  have o4 : FloatKind.f64.format.order 4591870180066957722 0 = some .gt := by kernel_rfl
  have o5 : FloatKind.f64.format.order 4602946332990512719 0 = some .gt := by kernel_rfl
  have o6 : FloatKind.f64.format.order 4602946332990512719 4607182418800017408 = some .lt := by kernel_rfl
  have o7 : FloatKind.f64.format.order 4582862980812216730 0 = some .gt := by kernel_rfl
  have o8 : FloatKind.f64.format.order 4582862980812216730 4607182418800017408 = some .lt := by kernel_rfl
  go_enter Try.func4, Try.ntmps4
  go_wp2_with fail
  refine (default_any w).mono ?_
  rintro e w1 ⟨rfl, hb⟩
  have hb2 : Below w.heap.size w (w1.alloc (.cells cfg 28)) := hb.alloc hb.size _
  go_wp2_with (first | (refine wpList_alloc_row rfl 28 rfl _ 22 zeroI28 ?_) | (refine wpList_store_new rfl 28 _ _ rfl _ cfg rfl rfl size28 rfl (by kernel_rfl) ?_))
  go_ret
  exact ⟨rfl, hb2⟩

end Go.Proofs.Qxb6627778a
