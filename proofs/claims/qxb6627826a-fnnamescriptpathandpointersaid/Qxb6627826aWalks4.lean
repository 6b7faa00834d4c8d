/- SEAT b6627826a, WALKS 4: zzEqBytes, zzEqBytesString, the two zzBytes. -/
import Derived.Test.Qxb6627826aWalks3
namespace Go.Proofs.Qxb6627826a
open Go.ChangeShapes Go.WideShapes Go.ChangeAt Go.RowKit

/-- A slice of bytes that can be read: its address where there is a byte. -/
theorem Row.at {base : Nat} {w : World} {v : Value} {xs : List UInt8} (h : Row base w v xs) : ∃ a cap, v = .slice a xs.length cap ∧ ∀ j (hj : j < xs.length), ∃ g, a = some ⟨g, 0, none⟩ ∧ g < w.heap.size ∧ w.cell? ⟨g, j, none⟩ = some (.int .u8 xs[j].toNat) := by
  have h' := h
  rcases h.2 with ⟨rfl, hn⟩ | ⟨g, cap, cur, rfl, hbg, hg, _⟩
  · exact ⟨none, 0, by rw [hn], fun j hj => absurd hj (by omega)⟩
  · refine ⟨_, cap, rfl, fun j hj => ⟨g, rfl, (Array.getElem?_eq_some_iff.1 hg).1, ?_⟩⟩
    have := World.ownsRow.cellAt h' j (by omega)
    rw [this]
    simp [cb, hj]

set_option maxHeartbeats 2000000 in
theorem eqBytes_any (b1 b2 : Nat) (u v : Value) (xs : List UInt8) (w : World) (h1 : Row b1 w u xs) (h2 : Row b2 w v xs) (hn : xs.length ≤ maxB) :
    Calls Try.prog 9 #[u, v] w fun e w' => e = .returned (.bool true) ∧ Below w.heap.size w w' := by
  obtain ⟨a1, c1, rfl, r1⟩ := h1.at
  obtain ⟨a2, c2, rfl, r2⟩ := h2.at
  unfold maxB at hn
  clear h1 h2
  go_enter Try.func9, Try.ntmps9
  go_wp2_with fail
  go_loopw [5] (fun i wr => ∃ k nd : Nat, k ≤ xs.length ∧ i = .int .i64 k ∧ wr = w.drewN nd) (fun i _ => xs.length - (intOf i).toNat)
  case atStart => exact ⟨0, 0, by omega, rfl, rfl⟩
  case round =>
    obtain ⟨k, nd, hk, rfl, rfl⟩ := hrel
    by_cases hlt : k < xs.length
    · have hlt' : (k : Int) < (xs.length : Int) := by omega
      obtain ⟨g1, rfl, hg1, hc1⟩ := r1 k hlt
      obtain ⟨g2, rfl, hg2, hc2⟩ := r2 k hlt
      have R1 : Hid _ := r1
      have R2 : Hid _ := r2
      clear r1 r2
      generalize xs[k].toNat = c at *
      go_wp2
      go_quiet (fail)
      go_wp2
      go_roundw
      case rel => exact ⟨k + 1, _, by omega, by go_num, rfl⟩
      case measure => simp [intOf]; omega
    · have hke : k = xs.length := by omega
      subst hke
      clear r1 r2
      go_wp2
      go_ret
      exact ⟨rfl, ⟨rfl, rfl, rfl, Nat.le_refl _, fun _ _ => rfl⟩⟩

set_option maxHeartbeats 2000000 in
theorem eqBytesString_any (b1 : Nat) (u : Value) (s : ByteArray) (w : World) (h1 : Row b1 w u s.data.toList) (hn : s.size ≤ maxB) :
    Calls Try.prog 11 #[u, .string s] w fun e w' => e = .returned (.bool true) ∧ Below w.heap.size w w' := by
  obtain ⟨a1, c1, rfl, r1⟩ := h1.at
  have hsz : s.data.toList.length = s.size := by simp
  unfold maxB at hn
  have r1' : ∀ j (hj : j < s.size), ∃ g, a1 = some ⟨g, 0, none⟩ ∧ g < w.heap.size ∧ w.cell? ⟨g, j, none⟩ = some (.int .u8 (s[j]'hj).toNat) := fun j hj => by
    have := r1 j (by rw [hsz]; exact hj)
    rwa [get_data s j hj] at this
  rw [hsz] at *
  clear h1 r1 hsz
  go_enter Try.func11, Try.ntmps11
  go_wp2_with fail
  go_loopw [5] (fun i wr => ∃ k nd : Nat, k ≤ s.size ∧ i = .int .i64 k ∧ wr = w.drewN nd) (fun i _ => s.size - (intOf i).toNat)
  case atStart => exact ⟨0, 0, by omega, rfl, rfl⟩
  case round =>
    obtain ⟨k, nd, hk, rfl, rfl⟩ := hrel
    by_cases hlt : k < s.size
    · have hlt' : (k : Int) < (s.size : Int) := by omega
      obtain ⟨g1, rfl, hg1, hc1⟩ := r1' k hlt
      clear r1'
      go_wp2
      go_quiet (fail)
      go_wp2
      go_roundw
      case rel => exact ⟨k + 1, _, by omega, by go_num, rfl⟩
      case measure => simp [intOf]; omega
    · have hke : k = s.size := by omega
      subst hke
      clear r1'
      go_wp2
      go_ret
      exact ⟨rfl, ⟨rfl, rfl, rfl, Nat.le_refl _, fun _ _ => rfl⟩⟩

end Go.Proofs.Qxb6627826a
