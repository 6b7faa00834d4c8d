/- WALKS OF SEAT b6627747a, 10: zzBytes_FnMatchesAcceptsOwnValuesRefusesNeighbours. -/
import Derived.Test.Qxb6627747aWalks9
namespace Go.Proofs.Qxb6627747a
open Go.ChangeShapes Go.WideShapes Go.ChangeAt Go.RowKit

def RetBool (e : Ending) : Prop := ∃ b : Bool, e = .returned (.bool b)

set_option maxHeartbeats 2000000 in
theorem bytes_any (at_ ot : ByteArray) (m rt : List Int) (a : Option Addr) (n cap : Nat) (pos mask out : Int) (w : World) (ha : at_.size ≤ maxLen) (ho : ot.size ≤ maxLen) (hn : n ≤ maxLen) :
    Calls Try.prog 7 #[.string at_, .string ot, .agg (bs m).toArray, .agg (bs rt).toArray, .slice a n cap, .int .i64 pos, .int .u8 mask, .int .i64 out] w fun e w' => RetBool e ∧ w' = ((w.alloc (.cells (bs m).toArray 23)).alloc (.cells (bs rt).toArray 24)) := by
  unfold maxLen at ha ho hn
  by_cases c1 : 1048576 < (at_.size : Int)
  · go_enter Try.func7, Try.ntmps7
    go_wp2
    go_ret
    exact ⟨⟨false, rfl⟩, rfl⟩
  by_cases c2 : 1048576 < (ot.size : Int)
  · go_enter Try.func7, Try.ntmps7
    go_wp2
    go_ret
    exact ⟨⟨false, rfl⟩, rfl⟩
  by_cases c3 : 1048576 < (at_.size : Int) + ot.size
  · go_enter Try.func7, Try.ntmps7
    go_wp2
    go_ret
    exact ⟨⟨false, rfl⟩, rfl⟩
  by_cases c4 : 1048576 < (n : Int)
  · go_enter Try.func7, Try.ntmps7
    go_wp2
    go_ret
    exact ⟨⟨false, rfl⟩, rfl⟩
  by_cases c5 : 1048576 < (at_.size : Int) + ot.size + n
  · go_enter Try.func7, Try.ntmps7
    go_wp2
    go_ret
    exact ⟨⟨false, rfl⟩, rfl⟩
  go_enter Try.func7, Try.ntmps7
  go_wp2
  go_loop [17, 18] (fun t i => ∃ (k : Nat) (T : Int), k ≤ n ∧ i = .int .i64 k ∧ t = .int .i64 T ∧ 0 ≤ T ∧ T ≤ 1048576) (fun _ i => n - (intOf i).toNat)
  case atStart => exact ⟨0, _, Nat.zero_le _, rfl, rfl, by omega, by omega⟩
  case round =>
    obtain ⟨k, T, hk, rfl, rfl, hT0, hT1⟩ := hrel
    by_cases hlt : k < n
    · by_cases d : 1048576 < T + 48
      · go_wp2
        go_ret
        exact ⟨⟨false, rfl⟩, rfl⟩
      · go_wp2
        go_round
        case rel => exact ⟨k + 1, T + 48, by omega, by go_num, rfl, by omega, by omega⟩
        case measure => simp [intOf]; omega
    · go_wp2
      go_ret
      exact ⟨⟨true, rfl⟩, rfl⟩

end Go.Proofs.Qxb6627747a
