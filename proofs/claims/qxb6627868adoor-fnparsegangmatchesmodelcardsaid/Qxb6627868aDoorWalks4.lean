/- SEAT b6627868aD, WALKS 4: zzBytes, gangSameFault. -/
import Derived.Test.Qxb6627868aDoorWalks3
namespace Go.Proofs.Qxb6627868aDoor
open Go.ChangeShapes Go.WideShapes Go.ChangeAt Go.RowKit

def RetBool (e : Ending) : Prop := ∃ b : Bool, e = .returned (.bool b)
theorem RetBool.mk (b : Bool) : RetBool (.returned (.bool b)) := ⟨b, rfl⟩

set_option maxHeartbeats 1000000 in
theorem bytes8 (a b c : ByteArray) (w : World) : Calls Tryd.prog 8 #[.string a, .string b, .string c] w fun e w' => RetBool e ∧ w' = w := by
  go_enter Tryd.func8, Tryd.ntmps8
  go_wp2
  all_goals go_ret
  all_goals exact ⟨RetBool.mk _, rfl⟩

theorem same_none (w : World) : Calls Tryd.prog 9 #[.pointer none, .pointer none] w fun e w' => e = .returned (.bool true) ∧ Below w.heap.size w w' := by
  go_enter Tryd.func9, Tryd.ntmps9
  go_wp2
  go_ret
  exact ⟨rfl, Below.refl _ _⟩

set_option maxHeartbeats 1000000 in
theorem same_some (N M : Nat) (pb st : Int) (s id : ByteArray) (c m : Int) (lab : ByteArray) (w : World) (hN : w.heap[N]? = some (.cells (fcells pb st s id c m lab) 33 (0, 0))) (hM : w.heap[M]? = some (.cells (fcells pb st s id c m lab) 33 (0, 0))) :
    Calls Tryd.prog 9 #[.pointer (some ⟨N, 0, none⟩), .pointer (some ⟨M, 0, none⟩)] w fun e w' => e = .returned (.bool true) ∧ Below w.heap.size w w' := by
  have n0 : w.cell? ⟨N, 0, none⟩ = some (.int .i64 pb) := by rw [cell_of_row w _ _ _ 33 (0, 0) hN]; rfl
  have n1 : w.cell? ⟨N, 1, none⟩ = some (.int .i64 st) := by rw [cell_of_row w _ _ _ 33 (0, 0) hN]; rfl
  have n2 : w.cell? ⟨N, 2, none⟩ = some (.string s) := by rw [cell_of_row w _ _ _ 33 (0, 0) hN]; rfl
  have n3 : w.cell? ⟨N, 3, none⟩ = some (.string id) := by rw [cell_of_row w _ _ _ 33 (0, 0) hN]; rfl
  have n4 : w.cell? ⟨N, 4, none⟩ = some (.int .i64 c) := by rw [cell_of_row w _ _ _ 33 (0, 0) hN]; rfl
  have n5 : w.cell? ⟨N, 5, none⟩ = some (.int .i64 m) := by rw [cell_of_row w _ _ _ 33 (0, 0) hN]; rfl
  have n6 : w.cell? ⟨N, 6, none⟩ = some (.string lab) := by rw [cell_of_row w _ _ _ 33 (0, 0) hN]; rfl
  have m0 : w.cell? ⟨M, 0, none⟩ = some (.int .i64 pb) := by rw [cell_of_row w _ _ _ 33 (0, 0) hM]; rfl
  have m1 : w.cell? ⟨M, 1, none⟩ = some (.int .i64 st) := by rw [cell_of_row w _ _ _ 33 (0, 0) hM]; rfl
  have m2 : w.cell? ⟨M, 2, none⟩ = some (.string s) := by rw [cell_of_row w _ _ _ 33 (0, 0) hM]; rfl
  have m3 : w.cell? ⟨M, 3, none⟩ = some (.string id) := by rw [cell_of_row w _ _ _ 33 (0, 0) hM]; rfl
  have m4 : w.cell? ⟨M, 4, none⟩ = some (.int .i64 c) := by rw [cell_of_row w _ _ _ 33 (0, 0) hM]; rfl
  have m5 : w.cell? ⟨M, 5, none⟩ = some (.int .i64 m) := by rw [cell_of_row w _ _ _ 33 (0, 0) hM]; rfl
  have m6 : w.cell? ⟨M, 6, none⟩ = some (.string lab) := by rw [cell_of_row w _ _ _ 33 (0, 0) hM]; rfl
  clear hN hM
  go_enter Tryd.func9, Tryd.ntmps9
  go_wp2_with fail
  go_quiet (fail)
  go_wp2
  go_ret
  exact ⟨rfl, ⟨rfl, rfl, rfl, Nat.le_refl _, fun _ _ => rfl⟩⟩

end Go.Proofs.Qxb6627868aDoor
