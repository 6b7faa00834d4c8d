/- SEAT b6627826a, WALKS 1: appendSegment. -/
import Derived.Test.Qxb6627826aBase
namespace Go.Proofs.Qxb6627826a
open Go.ChangeShapes Go.WideShapes Go.ChangeAt Go.RowKit

def esc (c : UInt8) : List UInt8 := if c = 126 then [126, 48] else if c = 47 then [126, 49] else [c]
def seg (s : List UInt8) : List UInt8 := 47 :: s.flatMap esc
theorem esc_len (c : UInt8) : (esc c).length ≤ 2 := by
  unfold esc; split
  · simp
  · split <;> simp
theorem flat_len (s : List UInt8) : (s.flatMap esc).length ≤ 2 * s.length := by
  induction s with
  | nil => simp
  | cons c s ih => simp only [List.flatMap_cons, List.length_append, List.length_cons]; have := esc_len c; omega
theorem take_esc (s : List UInt8) (k : Nat) (hk : k < s.length) : (s.take (k + 1)).flatMap esc = (s.take k).flatMap esc ++ esc s[k] := by
  rw [List.take_succ_eq_append_getElem hk, List.flatMap_append]
  simp

theorem u8_eq (c : UInt8) (n : Nat) (hn : n < 256) : ((c.toNat : Int) == (n : Int)) = (c == UInt8.ofNat n) := by
  rw [Bool.eq_iff_iff]
  simp only [beq_iff_eq]
  constructor
  · intro h
    have h' : c.toNat = n := by omega
    rw [← h']
    simp
  · intro h
    subst h
    simp [Nat.mod_eq_of_lt hn]

theorem get_data (s : ByteArray) (k : Nat) (hk : k < s.size) : s.data.toList[k]'(by simpa using hk) = s[k]'hk := by
  simp [ByteArray.getElem_eq_getElem_data]

set_option maxHeartbeats 2000000 in
theorem seg_any (base : Nat) (v : Value) (xs : List UInt8) (s : ByteArray) (w : World) (hown : Row base w v xs) (hbase : base ≤ w.heap.size) (hb : xs.length + 1 + 2 * s.size ≤ maxB) :
    Calls Try.prog 14 #[v, .string s] w fun e w' => ∃ v', e = .returned v' ∧ Row base w' v' (xs ++ seg s.data.toList) ∧ Grew w w' v v' := by
  have hsz : s.data.toList.length = s.size := by simp
  have hs40 : s.size ≤ 1099511627776 := by unfold maxB at hb; omega
  go_enter Try.func14, Try.ntmps14
  go_wp2_with (at_builtin; refine append_one rfl _ _ rfl base v xs rfl hown 47 _ rfl _ rfl rfl (by omega) hbase ?_)
  intro v1 w1 h1 g1
  try go_frame
  go_wp2_with fail
  go_loopw [0, 5] (fun p i wr => ∃ (k : Nat) (p' : Value), p' = p ∧ k ≤ s.size ∧ i = .int .i64 k ∧ Row base wr p (xs ++ 47 :: (s.data.toList.take k).flatMap esc) ∧ Grew w wr v p) (fun _ i _ => s.size - (intOf i).toNat)
  case atStart => exact ⟨0, _, rfl, by omega, rfl, h1, g1⟩
  case round =>
    obtain ⟨k, p, rfl, hk, rfl, hR, hG⟩ := hrel
    clear h1 g1
    by_cases hlt : k < s.size
    · have hlt' : (k : Int) < (s.size : Int) := by omega
      have hbase' : base ≤ wr.heap.size := Nat.le_trans hbase hG.1.size
      have hte := take_esc s.data.toList k (by rw [hsz]; exact hlt)
      rw [get_data s k hlt] at hte
      have hfl := flat_len (s.data.toList.take k)
      have hln : (xs ++ 47 :: (s.data.toList.take k).flatMap esc).length + 2 ≤ maxB := by
        simp only [List.length_append, List.length_cons]
        rw [List.length_take] at hfl
        omega
      have hnext : ∀ w' v', Row base w' v' ((xs ++ 47 :: (s.data.toList.take k).flatMap esc) ++ esc (s[k]'hlt)) → Row base w' v' (xs ++ 47 :: (s.data.toList.take (k + 1)).flatMap esc) := by
        intro w' v' h
        rw [hte]
        simpa using h
      clear hte hfl
      generalize xs ++ 47 :: (s.data.toList.take k).flatMap esc = ys at *
      have HN : Hid _ := hnext
      clear hnext
      have hk8 := u8_eq (s[k]'hlt)
      by_cases h1 : s[k]'hlt = 126
      · have e1 : (((s[k]'hlt).toNat : Int) == 126) = true := by rw [h1]; rfl
        clear hk8
        go_wp2_with (first | (at_builtin; refine append_text rfl _ _ rfl base p ys rfl hR _ rfl (by show ys.length + 2 ≤ maxB; omega) hbase' ?_))
        intro v2 w2 h2 g2
        try go_frame
        go_wp2_with fail
        go_roundw
        case rel => exact ⟨k + 1, _, rfl, by omega, by go_num, HN.out _ _ (by rw [show esc (s[k]'hlt) = [126, 48] by simp [esc, h1]]; exact h2), hG.trans g2⟩
        case measure => simp [intOf]; omega
      · have e1 : (((s[k]'hlt).toNat : Int) == 126) = false := by rw [show (126 : Int) = ((126 : Nat) : Int) from rfl, hk8 126 (by decide)]; simpa using h1
        by_cases h47 : s[k]'hlt = 47
        · have e2 : (((s[k]'hlt).toNat : Int) == 47) = true := by rw [h47]; rfl
          clear hk8
          go_wp2_with (first | (at_builtin; refine append_text rfl _ _ rfl base p ys rfl hR _ rfl (by show ys.length + 2 ≤ maxB; omega) hbase' ?_))
          intro v2 w2 h2 g2
          try go_frame
          go_wp2_with fail
          go_roundw
          case rel => exact ⟨k + 1, _, rfl, by omega, by go_num, HN.out _ _ (by rw [show esc (s[k]'hlt) = [126, 49] by rw [h47]; decide]; exact h2), hG.trans g2⟩
          case measure => simp [intOf]; omega
        · have e2 : (((s[k]'hlt).toNat : Int) == 47) = false := by rw [show (47 : Int) = ((47 : Nat) : Int) from rfl, hk8 47 (by decide)]; simpa using h47
          clear hk8
          go_wp2_with (first | (at_builtin; refine append_one rfl _ _ rfl base p ys rfl hR (s[k]'hlt) _ rfl _ rfl rfl (by omega) hbase' ?_))
          intro v2 w2 h2 g2
          try go_frame
          go_wp2_with fail
          go_roundw
          case rel => exact ⟨k + 1, _, rfl, by omega, by go_num, HN.out _ _ (by rw [show esc (s[k]'hlt) = [s[k]'hlt] by simp [esc, h1, h47]]; exact h2), hG.trans g2⟩
          case measure => simp [intOf]; omega
    · have hke : k = s.size := by omega
      subst hke
      go_wp2
      go_ret
      refine ⟨_, rfl, ?_, hG⟩
      rw [List.take_of_length_le (by omega)] at hR
      exact hR

end Go.Proofs.Qxb6627826a
