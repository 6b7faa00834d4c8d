/- SEAT b6627826a, WALKS 6: the law FnNameCutAgreesAndLengths. -/
import Derived.Test.Qxb6627826aPlain
namespace Go.Proofs.Qxb6627826a
open Go.ChangeShapes Go.WideShapes Go.ChangeAt Go.RowKit

theorem below_grew {B : Nat} {W wx w' : World} {v v' : Value} {xs : List UInt8} (h : Below B W wx) (hr : Row B wx v xs) (g : Grew wx w' v v') (hB : B ≤ wx.heap.size) : Below B W w' :=
  h.grown g.1 hB (fun k hk => (World.ownsRow.lt hr k hk).1)
theorem Row.nil (B : Nat) (w : World) : Row B w (.slice none 0 0) [] := World.ownsRow_nil _ _ _ _

def dots (p r : List UInt8) : List UInt8 := if p ≠ [] ∧ r ≠ [] then [46] else []
theorem join_dots (p r : List UInt8) : joinP p r = p ++ dots p r ++ r := by
  unfold joinP dots
  by_cases hp : p = []
  · simp [hp]
  · by_cases hr : r = [] <;> simp [hp, hr]
theorem dots_len (p r : List UInt8) : (dots p r).length ≤ 1 := by
  unfold dots; split <;> simp

theorem pU0_succ (S : List ByteArray) (k : Nat) (h : k < S.length) : pU S 0 (k + 1) = stepP (pU S 0 k) S[k].data.toList := by
  have := pU_succ S 0 k (by omega)
  simpa only [Nat.zero_add] using this
theorem qU0_succ (S : List ByteArray) (k : Nat) (h : k < S.length) : qU S 0 (k + 1) = stepQ (qU S 0 k) S[k].data.toList := by
  have := qU_succ S 0 k (by omega)
  simpa only [Nat.zero_add] using this

/-- What the inner loop has reckoned at byte j. -/
def segTo (s : ByteArray) (j : Nat) : Nat := 1 + ((s.data.toList.take j).flatMap esc).length + (s.size - j)
theorem segTo_zero (s : ByteArray) : segTo s 0 = 1 + s.size := by simp [segTo]
theorem segTo_step (s : ByteArray) (j : Nat) (hj : j < s.size) : segTo s (j + 1) = segTo s j + (if s[j]'hj = 126 ∨ s[j]'hj = 47 then 1 else 0) := by
  have h := take_esc s.data.toList j (by simpa using hj)
  rw [get_data s j hj] at h
  unfold segTo
  rw [h, List.length_append]
  have he : (esc (s[j]'hj)).length = 1 + (if s[j]'hj = 126 ∨ s[j]'hj = 47 then 1 else 0) := by
    unfold esc
    by_cases h1 : s[j]'hj = 126
    · simp [h1]
    · by_cases h2 : s[j]'hj = 47
      · simp [h2]
      · simp [h1, h2]
  omega
theorem segTo_end (s : ByteArray) : segTo s s.size = (seg s.data.toList).length := by
  unfold segTo seg
  rw [List.take_of_length_le (by simp)]
  simp only [List.length_cons]
  omega
theorem segTo_le (s : ByteArray) (j : Nat) (hj : j ≤ s.size) : segTo s j ≤ 1 + 2 * s.size := by
  unfold segTo
  have := flat_len (s.data.toList.take j)
  rw [List.length_take] at this
  have h2 : s.data.toList.length = s.size := by simp
  omega

set_option maxRecDepth 100000 in
set_option maxHeartbeats 4000000 in
theorem cut_walk (a0 : Option Addr) (S : List ByteArray) (cap : Nat) (kk : Int) (w : World) (hNS : NS w a0 S) :
    Calls Try.prog 4 #[.slice a0 S.length cap, .int .i64 kk] w fun e w' => e = .returned (.bool true) ∧ Below w.heap.size w w' := by
  go_enter Try.func4, Try.ntmps4
  go_wp2_with fail
  refine (bytes12 a0 S cap kk w hNS).mono ?_
  rintro e w1 ⟨⟨r, rfl, hr⟩, rfl⟩
  cases r
  case false =>
    go_wp2
    go_ret
    exact ⟨rfl, Below.refl _ _⟩
  case true =>
  have hsz := hr rfl
  clear hr
  by_cases hn : (65536 : Int) < (S.length : Int)
  · go_wp2
    go_ret
    exact ⟨rfl, Below.refl _ _⟩
  have hn' : S.length ≤ 65536 := by omega
  go_upto_block 0 with fail
  go_cut [5, 6] from 24 (fun _ _ wx => wx = w1)
  case first =>
    go_wp2_with fail
    go_loopw [5, 6] (fun z i wr => ∃ (k : Nat) (t : Int), k ≤ S.length ∧ i = .int .i64 k ∧ z = .int .i64 t ∧ 0 ≤ t ∧ t ≤ 1048576 ∧ wr = w1) (fun _ i _ => S.length - (intOf i).toNat)
    case atStart => exact ⟨0, 0, by omega, rfl, rfl, by omega, by omega, rfl⟩
    case round =>
      obtain ⟨k, t, hk, rfl, rfl, ht0, ht1, rfl⟩ := hrel
      by_cases hlt : k < S.length
      · have hlt' : (k : Int) < (S.length : Int) := by omega
        obtain ⟨b, off, rfl, hbl, hc⟩ := hNS k hlt
        have hs1 := hsz _ (List.getElem_mem hlt)
        generalize S[k] = sk at *
        by_cases ht2 : (1048576 : Int) < t + (16 + (sk.size : Int))
        · go_wp2
          go_ret
          exact ⟨rfl, Below.refl _ _⟩
        · go_wp2
          go_roundw
          case rel => exact ⟨k + 1, t + (16 + sk.size), by omega, by go_num, by go_num, by omega, by omega, trivial⟩
          case measure => simp [intOf]; omega
      · have hke : k = S.length := by omega
        subst hke
        go_wp2
        go_meet
        exact rfl
  case rest =>
  subst hcut
  by_cases hk0 : kk < 0
  · go_wp2
    go_ret
    exact ⟨rfl, Below.refl _ _⟩
  by_cases hk1 : (S.length : Int) < kk
  · go_wp2
    go_ret
    exact ⟨rfl, Below.refl _ _⟩
  obtain ⟨K, rfl⟩ : ∃ K : Nat, kk = K := ⟨kk.toNat, by omega⟩
  have hKS : K ≤ S.length := by omega
  go_wp2_with fail
  refine (build_any a0 S cap 0 S.length wc (Nat.zero_le _) (Nat.le_refl _) hNS hn' hsz).mono ?_
  rintro e wA ⟨bA, rfl, hPA, belA⟩
  go_wp2_with fail
  refine (build_any a0 S cap 0 K wA (Nat.zero_le _) hKS (hNS.below belA) hn' hsz).mono ?_
  rintro e wB ⟨bB, rfl, hPB, belB⟩
  have belB' := belA.trans (belB.mono belA.size)
  go_wp2_with fail
  refine (build_any a0 S cap K S.length wB hKS (Nat.le_refl _) (hNS.below belB') hn' hsz).mono ?_
  rintro e W ⟨bC, rfl, hPC, belC⟩
  have belW := belB'.trans (belC.mono belB'.size)
  have hNW := hNS.below belW
  replace hPA := (hPA.below belB).below belC
  replace hPB := hPB.below belC
  rw [Nat.sub_zero] at hPA hPB
  have lA := U_len S 0 S.length (by omega) hsz
  have lB := U_len S 0 K (by omega) hsz
  have lC := U_len S K (S.length - K) (by omega) hsz
  have eP := pU_cut S K
  have eQ := qU_cut S K
  have EP : Hid _ := eP
  have EQ : Hid _ := eQ
  clear eP eQ belA belB belB' belC hNS
  obtain ⟨pA, qA, hA⟩ := hPA
  obtain ⟨pB, qB, hB⟩ := hPB
  obtain ⟨pC, qC, hC⟩ := hPC
  have cA0 := hA.cell0
  have cA1 := hA.cell1
  have cB0 := hB.cell0
  have cB1 := hB.cell1
  have cC0 := hC.cell0
  have cC1 := hC.cell1
  obtain ⟨aB, kB, rfl⟩ := hB.path.form
  obtain ⟨aC, kC, rfl⟩ := hC.path.form
  go_wp2_with fail
  refine (path_any bA pA W cA0).mono ?_
  rintro e W ⟨rfl, rfl⟩
  go_wp2_with fail
  refine (path_any bB _ W cB0).mono ?_
  rintro e W ⟨rfl, rfl⟩
  go_wp2_with fail
  refine (path_any bC _ W cC0).mono ?_
  rintro e W ⟨rfl, rfl⟩
  go_wp2_with (at_builtin; refine append_row rfl _ _ rfl W.heap.size _ [] rfl (Row.nil _ _) _ _ _ rfl hB.path (by unfold maxB; simp only [List.length_nil]; omega) (Nat.le_refl _) ?_)
  intro v1 w2 r1 g1
  have bel2 := below_grew (Below.refl _ W) (Row.nil _ _) g1 (Nat.le_refl _)
  try go_frame
  go_upto_region 22 with fail
  go_cut [83] from 24 (fun c wx => c = .bool (decide (pU S 0 K ≠ [] ∧ pU S K (S.length - K) ≠ [])) ∧ wx = w2)
  case first =>
    by_cases h1 : pU S 0 K = []
    · have e1 : ¬ (0 : Int) < ((pU S 0 K).length : Int) := by rw [h1]; simp
      have H1 : Hid _ := h1
      clear h1
      go_wp2
      go_meet
      exact ⟨by rw [decide_eq_false (fun h => h.1 H1.out)], rfl⟩
    · have e1 : (0 : Int) < ((pU S 0 K).length : Int) := by have := List.length_pos_iff.2 h1; omega
      have H1 : Hid _ := h1
      clear h1
      by_cases h2 : pU S K (S.length - K) = []
      · have e2 : ¬ (0 : Int) < ((pU S K (S.length - K)).length : Int) := by rw [h2]; simp
        have H2 : Hid _ := h2
        clear h2
        go_wp2
        go_meet
        exact ⟨by rw [show decide (0 < (pU S K (S.length - K)).length) = false from decide_eq_false (by rw [H2.out]; simp), show decide (pU S 0 K ≠ [] ∧ pU S K (S.length - K) ≠ []) = false from decide_eq_false (fun h => h.2 H2.out)], rfl⟩
      · have e2 : (0 : Int) < ((pU S K (S.length - K)).length : Int) := by have := List.length_pos_iff.2 h2; omega
        have H2 : Hid _ := h2
        clear h2
        go_wp2
        go_meet
        exact ⟨by rw [show decide (0 < (pU S K (S.length - K)).length) = true from decide_eq_true (List.length_pos_iff.2 H2.out), decide_eq_true (show pU S 0 K ≠ [] ∧ pU S K (S.length - K) ≠ [] from ⟨H1.out, H2.out⟩)], rfl⟩
  case rest =>
  obtain ⟨rfl, rfl⟩ := hcut
  go_upto_if 83 with fail
  go_cut [13] from 24 (fun s13 wx => Row W.heap.size wx s13 (pU S 0 K ++ dots (pU S 0 K) (pU S K (S.length - K))) ∧ Below W.heap.size W wx)
  case first =>
    by_cases h1 : pU S 0 K ≠ [] ∧ pU S K (S.length - K) ≠ []
    · have e1 : decide (pU S 0 K ≠ [] ∧ pU S K (S.length - K) ≠ []) = true := decide_eq_true h1
      have e2 : dots (pU S 0 K) (pU S K (S.length - K)) = [46] := if_pos h1
      rw [e1]
      have E2 : Hid _ := e2
      clear e1 e2 h1
      go_wp2_with (at_builtin; refine append_one rfl _ _ rfl W.heap.size _ _ rfl r1 46 _ rfl _ rfl rfl (by unfold maxB; (try simp only [List.nil_append]); omega) bel2.size ?_)
      intro v2 w3 r3 g3
      try go_frame
      go_wp2_with fail
      go_meet
      exact ⟨by rw [E2.out]; exact r3, below_grew bel2 r1 g3 bel2.size⟩
    · have e1 : decide (pU S 0 K ≠ [] ∧ pU S K (S.length - K) ≠ []) = false := decide_eq_false h1
      have e2 : dots (pU S 0 K) (pU S K (S.length - K)) = [] := if_neg h1
      rw [e1]
      have E2 : Hid _ := e2
      clear e1 e2 h1
      go_wp2_with fail
      go_meet
      exact ⟨by rw [E2.out, List.append_nil]; exact r1, bel2⟩
  case rest =>
  obtain ⟨r2, bel3⟩ := hcut
  have lD := dots_len (pU S 0 K) (pU S K (S.length - K))
  go_wp2_with (at_builtin; refine append_row rfl _ _ rfl W.heap.size _ _ rfl r2 _ _ _ rfl (hC.path.below bel3) (by unfold maxB; simp only [List.length_append]; omega) bel3.size ?_)
  intro v3 w4 r4 g4
  have bel4 := below_grew bel3 r2 g4 bel3.size
  replace r4 : Row W.heap.size w4 v3 (pU S 0 S.length) := by rw [EP.out, join_dots, List.append_assoc]; exact r4
  try go_frame
  go_wp2_with fail
  refine (eqBytes_any _ _ _ _ _ w4 (hA.path.below bel4) r4 (by unfold maxB; omega)).mono ?_
  rintro e w5 ⟨rfl, b5⟩
  have bel5 := bel4.trans (b5.mono bel4.size)
  go_wp2_with fail
  refine (pointer_any bA qA w5 (by rw [bel5.cell (p := ⟨bA, 1, none⟩) hA.lt]; exact cA1)).mono ?_
  rintro e w6 ⟨rfl, rfl⟩
  go_wp2_with fail
  refine (pointer_any bB qB w6 (by rw [bel5.cell (p := ⟨bB, 1, none⟩) hB.lt]; exact cB1)).mono ?_
  rintro e w7 ⟨rfl, rfl⟩
  go_wp2_with fail
  refine (pointer_any bC qC w7 (by rw [bel5.cell (p := ⟨bC, 1, none⟩) hC.lt]; exact cC1)).mono ?_
  rintro e w8 ⟨rfl, rfl⟩
  go_wp2_with (at_builtin; refine append_row rfl _ _ rfl W.heap.size _ [] rfl (Row.nil _ _) _ _ _ rfl (hB.ptr.below bel5) (by unfold maxB; simp only [List.length_nil]; omega) bel5.size ?_)
  intro v9 w9 r9 g9
  have bel9 := below_grew bel5 (Row.nil _ _) g9 bel5.size
  try go_frame
  go_wp2_with (at_builtin; refine append_row rfl _ _ rfl W.heap.size _ _ rfl r9 _ _ _ rfl (hC.ptr.below bel9) (by unfold maxB; (try simp only [List.nil_append]); omega) bel9.size ?_)
  intro v10 w10 r10 g10
  have bel10 := below_grew bel9 r9 g10 bel9.size
  replace r10 : Row W.heap.size w10 v10 (qU S 0 S.length) := by rw [EQ.out]; exact r10
  try go_frame
  go_wp2_with fail
  refine (eqBytes_any _ _ _ _ _ w10 (hA.ptr.below bel10) r10 (by unfold maxB; omega)).mono ?_
  rintro e w11 ⟨rfl, b11⟩
  have bel11 := bel10.trans (b11.mono bel10.size)
  have hN11 := hNW.below bel11
  have belE := belW.trans (bel11.mono belW.size)
  obtain ⟨aA, kA, rfl⟩ := hA.path.form
  obtain ⟨aQ, kQ, rfl⟩ := hA.ptr.form
  clear hA hB hC cA0 cA1 cB0 cB1 cC0 cC1 EP EQ r1 g1 r2 bel2 bel3 lD r4 g4 bel4 b5 bel5 r9 g9 bel9 r10 g10 bel10 b11 bel11 hNW belW lB lC
  go_upto_block 5 with fail
  go_wp2_with fail
  go_loopw [18, 19, 20, 21] (fun c pl z i wr => ∃ (k : Nat) (c' pl' : Int), k ≤ S.length ∧ i = .int .i64 k ∧ c = .int .i64 c' ∧ pl = .int .i64 pl' ∧ z = .int .i64 ((qU S 0 k).length : Nat) ∧ Counted (pU S 0 k) c' pl' ∧ c' ≤ k ∧ wr = w11) (fun _ _ _ i _ => S.length - (intOf i).toNat)
  case atStart => exact ⟨0, 0, 0, by omega, rfl, rfl, rfl, rfl, .inl ⟨rfl, rfl, rfl⟩, by omega, rfl⟩
  case round =>
    obtain ⟨k, c, pl, hk, rfl, rfl, rfl, rfl, hC, hck, rfl⟩ := hrel
    have lK := U_len S 0 k (by omega) hsz
    have cb0 : 0 ≤ c ∧ 0 ≤ pl ∧ pl + c ≤ (pU S 0 k).length + 1 := by
      rcases hC with ⟨h1, h2, h3⟩ | ⟨h1, h2, h3, h4⟩ <;> omega
    by_cases hlt : k < S.length
    · have hlt' : (k : Int) < (S.length : Int) := by omega
      obtain ⟨b, off, rfl, hbl, hc⟩ := hN11 k hlt
      have hs1 := hsz _ (List.getElem_mem hlt)
      have f1 := pU0_succ S k hlt
      have f2 := qU0_succ S k hlt
      generalize S[k] = sk at *
      by_cases hs : sk.toList = []
      · have hs' : sk.data.toList = [] := by rw [← ByteArray.toList_eq]; exact hs
        have e1 : (sk.toList == ([] : List UInt8)) = true := by simp [hs]
        rw [hs', stepP, if_pos rfl] at f1
        rw [hs', stepQ, if_pos rfl] at f2
        have F1 : Hid _ := f1
        have F2 : Hid _ := f2
        clear f1 f2 hs hs'
        go_wp2
        go_roundw
        case rel => exact ⟨k + 1, c, pl, by omega, by go_num, rfl, rfl, by rw [F2.out], by rw [F1.out]; exact hC, by omega, trivial⟩
        case measure => simp [intOf]; omega
      · have hs' : sk.data.toList ≠ [] := by rw [← ByteArray.toList_eq]; exact hs
        have e1 : (sk.toList == ([] : List UInt8)) = false := by simp [hs]
        have hC' := hC.step hs'
        rw [← f1] at hC'
        have f3 : (qU S 0 (k + 1)).length = (qU S 0 k).length + segTo sk sk.size := by
          rw [f2, stepQ, if_neg hs', List.length_append, segTo_end]
        have hl : sk.data.toList.length = sk.size := by simp
        rw [hl] at hC'
        have F3 : Hid _ := f3
        have s0 := segTo_zero sk
        clear f1 f2 f3 hs hs' hl hC
        go_wp2
        go_loopw [20, 23] (fun z jv wi => ∃ j : Nat, j ≤ sk.size ∧ jv = .int .i64 j ∧ z = .int .i64 ((qU S 0 k).length + segTo sk j : Nat) ∧ wi = wr) (fun _ jv _ => sk.size - (intOf jv).toNat)
        case atStart => exact ⟨0, by omega, rfl, by rw [s0]; go_num, rfl⟩
        case round =>
          obtain ⟨j, hj, rfl, rfl, rfl⟩ := hrel
          have sle := segTo_le sk j hj
          by_cases hjl : j < sk.size
          · have hjl' : (j : Int) < (sk.size : Int) := by omega
            have sst := segTo_step sk j hjl
            have hk8 := u8_eq (sk[j]'hjl)
            by_cases h1 : sk[j]'hjl = 126
            · have e2 : (((sk[j]'hjl).toNat : Int) == 126) = true := by rw [h1]; rfl
              rw [if_pos (.inl h1)] at sst
              have SST : Hid _ := sst
              clear hk8 h1 sst
              go_wp2
              go_roundw
              case rel => exact ⟨j + 1, by omega, by go_num, by rw [SST.out]; go_num, trivial⟩
              case measure => simp [intOf]; omega
            · have e2 : (((sk[j]'hjl).toNat : Int) == 126) = false := by rw [show (126 : Int) = ((126 : Nat) : Int) from rfl, hk8 126 (by decide)]; simpa using h1
              by_cases h47 : sk[j]'hjl = 47
              · have e3 : (((sk[j]'hjl).toNat : Int) == 47) = true := by rw [h47]; rfl
                rw [if_pos (.inr h47)] at sst
                have SST : Hid _ := sst
                clear hk8 h1 h47 sst
                go_wp2
                go_roundw
                case rel => exact ⟨j + 1, by omega, by go_num, by rw [SST.out]; go_num, trivial⟩
                case measure => simp [intOf]; omega
              · have e3 : (((sk[j]'hjl).toNat : Int) == 47) = false := by rw [show (47 : Int) = ((47 : Nat) : Int) from rfl, hk8 47 (by decide)]; simpa using h47
                rw [if_neg (fun h => h.elim h1 h47)] at sst
                have SST : Hid _ := sst
                clear hk8 h1 h47 sst
                go_wp2
                go_roundw
                case rel => exact ⟨j + 1, by omega, by go_num, by rw [SST.out, Nat.add_zero], trivial⟩
                case measure => simp [intOf]; omega
          · have hje : j = sk.size := by omega
            subst hje
            go_wp2
            go_roundw
            case rel => exact ⟨k + 1, c + 1, pl + sk.size, by omega, by go_num, by go_num, by go_num, by rw [F3.out], hC', by omega, trivial⟩
            case measure => simp [intOf]; omega
    · have hke : k = S.length := by omega
      subst hke
      rcases hC with ⟨h1, h2, h3⟩ | ⟨h1, h2, h3, h4⟩
      · have h5 : (((pU S 0 S.length).length : Int) == 0) = true := by rw [h1]; rfl
        subst h2 h3
        clear h1
        go_wp2
        go_ret
        exact ⟨rfl, belE⟩
      · have h5 : (((pU S 0 S.length).length : Int) == pl + (c - 1)) = true := by simp; omega
        go_wp2
        go_ret
        exact ⟨rfl, belE⟩

end Go.Proofs.Qxb6627826a
