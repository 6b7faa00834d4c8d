/- SEAT b6627826a, WALKS 8: the law FnNameScriptPathAndPointer. -/
import Derived.Test.Qxb6627826aWalks7
namespace Go.Proofs.Qxb6627826a
open Go.ChangeShapes Go.WideShapes Go.ChangeAt Go.RowKit

theorem foldQ_head (L : List (List UInt8)) : L.foldl stepQ [] = [] ∨ ∃ t, L.foldl stepQ [] = 47 :: t := by
  induction L with
  | nil => exact .inl rfl
  | cons s L ih =>
    rw [List.foldl_cons, foldQ]
    by_cases hs : s = []
    · rw [stepQ, if_pos hs]; exact ih
    · rw [stepQ, if_neg hs]; exact .inr ⟨_, rfl⟩
theorem pS_succ (S : List ByteArray) (k : Nat) (h : k < S.length) : pU S 0 (k + 1) = stepP (pU S 0 k) S[k].data.toList := by
  have := pU_succ S 0 k (by omega)
  simpa only [Nat.zero_add] using this
theorem qS_succ (S : List ByteArray) (k : Nat) (h : k < S.length) : qU S 0 (k + 1) = stepQ (qU S 0 k) S[k].data.toList := by
  have := qU_succ S 0 k (by omega)
  simpa only [Nat.zero_add] using this

set_option maxRecDepth 100000 in
set_option maxHeartbeats 4000000 in
theorem script_walk (a0 : Option Addr) (S : List ByteArray) (cap : Nat) (w : World) (hNS : NS w a0 S) :
    Calls Try.prog 3 #[.slice a0 S.length cap] w fun e w' => e = .returned (.bool true) ∧ Below w.heap.size w w' := by
  go_enter Try.func3, Try.ntmps3
  go_wp2_with fail
  refine (bytes5 a0 S cap w hNS).mono ?_
  rintro e w1 ⟨⟨r, rfl, hr⟩, rfl⟩
  cases r
  case false =>
    go_wp2
    go_ret
    exact ⟨rfl, Below.refl _ _⟩
  case true =>
  have hsz := hr rfl
  clear hr
  by_cases hn : (65536 : Int) < (S.length : Int)
  · go_wp2
    go_ret
    exact ⟨rfl, Below.refl _ _⟩
  have hn' : S.length ≤ 65536 := by omega
  go_upto_block 0 with fail
  go_cut [3, 4] from 16 (fun _ _ wx => wx = w1)
  case first =>
    go_wp2_with fail
    go_loopw [3, 4] (fun z i wr => ∃ (k : Nat) (t : Int), k ≤ S.length ∧ i = .int .i64 k ∧ z = .int .i64 t ∧ 0 ≤ t ∧ t ≤ 1048576 ∧ wr = w1) (fun _ i _ => S.length - (intOf i).toNat)
    case atStart => exact ⟨0, 0, by omega, rfl, rfl, by omega, by omega, rfl⟩
    case round =>
      obtain ⟨k, t, hk, rfl, rfl, ht0, ht1, rfl⟩ := hrel
      by_cases hlt : k < S.length
      · have hlt' : (k : Int) < (S.length : Int) := by omega
        obtain ⟨b, off, rfl, hbl, hc⟩ := hNS k hlt
        have hs1 := hsz _ (List.getElem_mem hlt)
        generalize S[k] = sk at *
        by_cases ht2 : (1048576 : Int) < t + (16 + (sk.size : Int))
        · go_wp2
          go_ret
          exact ⟨rfl, Below.refl _ _⟩
        · go_wp2
          go_roundw
          case rel => exact ⟨k + 1, t + (16 + sk.size), by omega, by go_num, by go_num, by omega, by omega, trivial⟩
          case measure => simp [intOf]; omega
      · have hke : k = S.length := by omega
        subst hke
        go_wp2
        go_meet
        exact rfl
  case rest =>
  subst hcut
  go_wp2_with fail
  refine (build_any a0 S cap 0 S.length wc (Nat.zero_le _) (Nat.le_refl _) hNS hn' hsz).mono ?_
  rintro e W ⟨bA, rfl, hPA, belW⟩
  have hNW := hNS.below belW
  rw [Nat.sub_zero] at hPA
  have lA := U_len S 0 S.length (by omega) hsz
  obtain ⟨pA, qA, hA⟩ := hPA
  have cA0 := hA.cell0
  have cA1 := hA.cell1
  obtain ⟨aQ, kQ, rfl⟩ := hA.ptr.form
  clear hNS
  go_wp2_with fail
  refine (path_any bA pA W cA0).mono ?_
  rintro e W ⟨rfl, rfl⟩
  go_wp2_with fail
  refine (pointer_any bA _ W cA1).mono ?_
  rintro e W ⟨rfl, rfl⟩
  clear cA0 cA1
  go_upto_block 2 with fail
  go_cut [8, 9, 10] from 16 (fun s8 _ _ wx => Row W.heap.size wx s8 (pU S 0 S.length) ∧ Below W.heap.size W wx)
  case first =>
    go_wp2_with fail
    go_loopw [8, 9, 10] (fun v f i wr => ∃ (k : Nat) (v' : Value), v' = v ∧ k ≤ S.length ∧ i = .int .i64 k ∧ f = .bool (decide (pU S 0 k = [])) ∧ Row W.heap.size wr v (pU S 0 k) ∧ Below W.heap.size W wr) (fun _ _ i _ => S.length - (intOf i).toNat)
    case atStart => exact ⟨0, _, rfl, by omega, rfl, rfl, World.ownsRow_nil _ _ _ _, Below.refl _ _⟩
    case round =>
      obtain ⟨k, v, rfl, hk, rfl, rfl, hv, hB⟩ := hrel
      by_cases hlt : k < S.length
      · have hlt' : (k : Int) < (S.length : Int) := by omega
        obtain ⟨b, off, rfl, hbW, hcW⟩ := hNW k hlt
        have hc : wr.cell? ⟨b, off + k, none⟩ = some (.string S[k]) := (hB.cell (p := ⟨b, off + k, none⟩) hbW).trans hcW
        have hbl : b < wr.heap.size := Nat.lt_of_lt_of_le hbW hB.size
        have HCW : Hid _ := hcW
        clear hcW
        have hs1 := hsz _ (List.getElem_mem hlt)
        have f1 := pS_succ S k hlt
        have lK := (U_len S 0 k (by omega) hsz).1
        generalize S[k] = sk at *
        by_cases hs : sk.toList = []
        · have hs' : sk.data.toList = [] := by rw [← ByteArray.toList_eq]; exact hs
          have e1 : (sk.toList == ([] : List UInt8)) = true := by simp [hs]
          rw [hs', stepP, if_pos rfl] at f1
          have F1 : Hid _ := f1
          clear f1 hs hs'
          go_wp2
          go_roundw
          case rel => exact ⟨k + 1, _, rfl, by omega, by go_num, by rw [F1.out], by rw [F1.out]; exact hv, hB⟩
          case measure => simp [intOf]; omega
        · have hs' : sk.data.toList ≠ [] := by rw [← ByteArray.toList_eq]; exact hs
          have e1 : (sk.toList == ([] : List UInt8)) = false := by simp [hs]
          by_cases hp : pU S 0 k = []
          · have e2 : decide (pU S 0 k = []) = true := decide_eq_true hp
            rw [stepP, if_neg hs', if_pos hp] at f1
            have F1 : Hid _ := f1
            have HS : Hid _ := hs'
            rw [e2]
            rw [hp] at hv
            clear f1 hs hs' hp e2 lK
            go_wp2_with (at_builtin; refine append_text rfl _ _ rfl W.heap.size _ _ rfl hv sk rfl (by unfold maxB; simp only [List.length_nil]; omega) hB.size ?_)
            intro v2 w2 r2 g2
            have b2 := grew_below hB hv g2 hB.size
            try go_frame
            go_wp2_with fail
            go_roundw
            case rel => exact ⟨k + 1, _, rfl, by omega, by go_num, by rw [F1.out, decide_eq_false HS.out], by rw [F1.out]; exact r2, b2⟩
            case measure => simp [intOf]; omega
          · have e2 : decide (pU S 0 k = []) = false := decide_eq_false hp
            rw [stepP, if_neg hs', if_neg hp] at f1
            have F1 : Hid _ := f1
            have HS : Hid _ := hp
            rw [e2]
            clear f1 hs hs' hp e2
            go_wp2_with (at_builtin; refine append_one rfl _ _ rfl W.heap.size _ _ rfl hv 46 _ rfl _ rfl rfl (by unfold maxB; omega) hB.size ?_)
            intro v1 w2 r1 g1
            have b1 := grew_below hB hv g1 hB.size
            have hc2 : w2.cell? ⟨b, off + k, none⟩ = some (.string sk) := (b1.cell (p := ⟨b, off + k, none⟩) hbW).trans HCW.out
            have hbl2 : b < w2.heap.size := Nat.lt_of_lt_of_le hbW b1.size
            try go_frame
            go_wp2_with (at_builtin; refine append_text rfl _ _ rfl W.heap.size _ _ rfl r1 sk rfl (by unfold maxB; simp only [List.length_append, List.length_cons, List.length_nil]; omega) b1.size ?_)
            intro v2 w3 r2 g2
            have b2 := grew_below b1 r1 g2 b1.size
            try go_frame
            go_wp2_with fail
            go_roundw
            case rel => exact ⟨k + 1, _, rfl, by omega, by go_num, by rw [F1.out, decide_eq_false (by simp)], by rw [F1.out, List.append_assoc]; exact r2, b2⟩
            case measure => simp [intOf]; omega
      · have hke : k = S.length := by omega
        subst hke
        go_wp2
        go_meet
        exact ⟨hv, hB⟩
  case rest =>
  obtain ⟨r8, bel8⟩ := hcut
  go_wp2_with fail
  refine (eqBytes_any _ _ _ _ _ wc (hA.path.below bel8) r8 (by unfold maxB; omega)).mono ?_
  rintro e w9 ⟨rfl, b9⟩
  have bel9 := bel8.trans (b9.mono bel8.size)
  have belE : ∀ w', Below W.heap.size W w' → Below _ _ w' := fun w' h => belW.trans (h.mono belW.size)
  have hQ := hA.ptr
  clear r8 bel8 b9 hA belW
  go_wp2_with fail
  go_loopw [11, 12] (fun z i wr => ∃ k : Nat, k ≤ S.length ∧ i = .int .i64 k ∧ z = .int .i64 (qU S 0 k).length ∧ Below W.heap.size W wr) (fun _ i _ => S.length - (intOf i).toNat)
  case atStart => exact ⟨0, by omega, rfl, rfl, bel9⟩
  case round =>
    obtain ⟨k, hk, rfl, rfl, hB⟩ := hrel
    clear bel9
    by_cases hlt : k < S.length
    · have hlt' : (k : Int) < (S.length : Int) := by omega
      obtain ⟨b, off, rfl, hbW, hcW⟩ := hNW k hlt
      have hc : wr.cell? ⟨b, off + k, none⟩ = some (.string S[k]) := (hB.cell (p := ⟨b, off + k, none⟩) hbW).trans hcW
      have hbl : b < wr.heap.size := Nat.lt_of_lt_of_le hbW hB.size
      have HCW : Hid _ := hcW
      clear hcW
      have hs1 := hsz _ (List.getElem_mem hlt)
      have f1 := qS_succ S k hlt
      have fc := qU_cut S (k + 1)
      have hhd := foldQ_head (((txt S).drop (k + 1)).take (S.length - (k + 1)))
      generalize S[k] = sk at *
      by_cases hs : sk.toList = []
      · have hs' : sk.data.toList = [] := by rw [← ByteArray.toList_eq]; exact hs
        have e1 : (sk.toList == ([] : List UInt8)) = true := by simp [hs]
        rw [hs', stepQ, if_pos rfl] at f1
        have F1 : Hid _ := f1
        clear f1 hs hs' fc hhd
        go_wp2
        go_roundw
        case rel => exact ⟨k + 1, by omega, by go_num, by rw [F1.out], hB⟩
        case measure => simp [intOf]; omega
      · have hs' : sk.data.toList ≠ [] := by rw [← ByteArray.toList_eq]; exact hs
        have e1 : (sk.toList == ([] : List UInt8)) = false := by simp [hs]
        rw [stepQ, if_neg hs'] at f1
        have hQ' := hQ.below hB
        have HD := decode_any (bA + 1) (.slice aQ (qU S 0 S.length).length kQ) (qU S 0 k) sk.data.toList (qU S (k + 1) (S.length - (k + 1))) wr (by rw [← f1, ← fc]; exact hQ') hhd (by rw [← f1, ← fc]; unfold maxB; omega)
        have F1 : Hid _ := f1
        clear f1 hs hs' fc hhd
        go_wp2_with fail
        refine HD.mono ?_
        rintro e w2 ⟨tok, rfl, rt, b2⟩
        have b2' := hB.trans (b2.mono hB.size)
        have hc2 : w2.cell? ⟨b, off + k, none⟩ = some (.string sk) := (b2'.cell (p := ⟨b, off + k, none⟩) hbW).trans HCW.out
        have hbl2 : b < w2.heap.size := Nat.lt_of_lt_of_le hbW b2'.size
        go_wp2_with fail
        refine (eqBytesString_any _ tok sk w2 rt (by unfold maxB; omega)).mono ?_
        rintro e w3 ⟨rfl, b3⟩
        have b3' := b2'.trans (b3.mono b2'.size)
        go_wp2_with fail
        go_roundw
        case rel => exact ⟨k + 1, by omega, by go_num, by rw [F1.out, List.length_append]; rfl, b3'⟩
        case measure => simp [intOf]; omega
    · have hke : k = S.length := by omega
      subst hke
      go_wp2
      go_ret
      exact ⟨rfl, belE _ hB⟩

end Go.Proofs.Qxb6627826a
