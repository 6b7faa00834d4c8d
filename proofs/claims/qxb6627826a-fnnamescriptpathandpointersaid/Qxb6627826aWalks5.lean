/- SEAT b6627826a, WALKS 5: the two zzBytes. -/
import Derived.Test.Qxb6627826aWalks4
namespace Go.Proofs.Qxb6627826a
open Go.ChangeShapes Go.WideShapes Go.ChangeAt Go.RowKit

def Bnd (S : List ByteArray) (e : Ending) : Prop := ∃ r : Bool, e = .returned (.bool r) ∧ (r = true → ∀ s ∈ S, s.size ≤ 1048576)
theorem Bnd.no (S : List ByteArray) : Bnd S (.returned (.bool false)) := ⟨false, rfl, fun h => by cases h⟩

def Upto (S : List ByteArray) (k : Nat) : Prop := ∀ j (hj : j < S.length), j < k → S[j].size ≤ 1048576
theorem Upto.step {S : List ByteArray} {k : Nat} (h : Upto S k) (hk : k < S.length) (hs : S[k].size ≤ 1048576) : Upto S (k + 1) := fun j hj hjk => by
  by_cases e : j = k
  · subst e; exact hs
  · exact h j hj (by omega)
theorem Upto.all {S : List ByteArray} (h : Upto S S.length) : Bnd S (.returned (.bool true)) := ⟨true, rfl, fun _ s hs => by
  obtain ⟨j, hj, rfl⟩ := List.getElem_of_mem hs
  exact h j hj hj⟩

set_option maxHeartbeats 2000000 in
theorem bytes5 (a0 : Option Addr) (S : List ByteArray) (cap : Nat) (w : World) (hNS : NS w a0 S) :
    Calls Try.prog 5 #[.slice a0 S.length cap] w fun e w' => Bnd S e ∧ w' = w := by
  go_enter Try.func5, Try.ntmps5
  by_cases hn : (1048576 : Int) < (S.length : Int)
  · go_wp2
    go_ret
    exact ⟨Bnd.no S, rfl⟩
  · go_wp2_with fail
    go_loopw [3, 4] (fun z i wr => ∃ (k : Nat) (t : Int), k ≤ S.length ∧ i = .int .i64 k ∧ z = .int .i64 t ∧ 0 ≤ t ∧ t ≤ 1048576 ∧ Upto S k ∧ wr = w) (fun _ i _ => S.length - (intOf i).toNat)
    case atStart => exact ⟨0, S.length, by omega, rfl, rfl, by omega, by omega, fun _ _ h => absurd h (by omega), rfl⟩
    case round =>
      obtain ⟨k, t, hk, rfl, rfl, ht0, ht1, hU, rfl⟩ := hrel
      by_cases hlt : k < S.length
      · have hlt' : (k : Int) < (S.length : Int) := by omega
        obtain ⟨b, off, rfl, hbl, hc⟩ := hNS k hlt
        have hst := hU.step hlt
        generalize S[k] = sk at *
        by_cases hs1 : (1048576 : Int) < (sk.size : Int)
        · go_wp2
          go_ret
          exact ⟨Bnd.no S, rfl⟩
        · have hs2 : sk.size ≤ 1048576 := by omega
          have hU' := hst hs2
          clear hst
          by_cases ht2 : (1048576 : Int) < t + (sk.size : Int)
          · go_wp2
            go_ret
            exact ⟨Bnd.no S, rfl⟩
          · go_wp2
            go_roundw
            case rel => exact ⟨k + 1, t + sk.size, by omega, by go_num, by go_num, by omega, by omega, hU', trivial⟩
            case measure => simp [intOf]; omega
      · have hke : k = S.length := by omega
        subst hke
        go_wp2
        go_ret
        exact ⟨hU.all, rfl⟩

set_option maxHeartbeats 2000000 in
theorem bytes12 (a0 : Option Addr) (S : List ByteArray) (cap : Nat) (kk : Int) (w : World) (hNS : NS w a0 S) :
    Calls Try.prog 12 #[.slice a0 S.length cap, .int .i64 kk] w fun e w' => Bnd S e ∧ w' = w := by
  go_enter Try.func12, Try.ntmps12
  by_cases hn : (1048576 : Int) < (S.length : Int)
  · go_wp2
    go_ret
    exact ⟨Bnd.no S, rfl⟩
  · go_wp2_with fail
    go_loopw [5, 6] (fun z i wr => ∃ (k : Nat) (t : Int), k ≤ S.length ∧ i = .int .i64 k ∧ z = .int .i64 t ∧ 0 ≤ t ∧ t ≤ 1048576 ∧ Upto S k ∧ wr = w) (fun _ i _ => S.length - (intOf i).toNat)
    case atStart => exact ⟨0, S.length, by omega, rfl, rfl, by omega, by omega, fun _ _ h => absurd h (by omega), rfl⟩
    case round =>
      obtain ⟨k, t, hk, rfl, rfl, ht0, ht1, hU, rfl⟩ := hrel
      by_cases hlt : k < S.length
      · have hlt' : (k : Int) < (S.length : Int) := by omega
        obtain ⟨b, off, rfl, hbl, hc⟩ := hNS k hlt
        have hst := hU.step hlt
        generalize S[k] = sk at *
        by_cases hs1 : (1048576 : Int) < (sk.size : Int)
        · go_wp2
          go_ret
          exact ⟨Bnd.no S, rfl⟩
        · have hs2 : sk.size ≤ 1048576 := by omega
          have hU' := hst hs2
          clear hst
          by_cases ht2 : (1048576 : Int) < t + (sk.size : Int)
          · go_wp2
            go_ret
            exact ⟨Bnd.no S, rfl⟩
          · go_wp2
            go_roundw
            case rel => exact ⟨k + 1, t + sk.size, by omega, by go_num, by go_num, by omega, by omega, hU', trivial⟩
            case measure => simp [intOf]; omega
      · have hke : k = S.length := by omega
        subst hke
        go_wp2
        go_ret
        exact ⟨hU.all, rfl⟩

end Go.Proofs.Qxb6627826a
