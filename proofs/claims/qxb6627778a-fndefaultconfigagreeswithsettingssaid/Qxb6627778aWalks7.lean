/- SEAT b6627778a, WALKS 7: the law FnDefaultConfigAgreesWithSettings. -/
import Derived.Test.Qxb6627778aWalks6
namespace Go.Proofs.Qxb6627778a
open Go.ChangeShapes Go.WideShapes Go.ChangeAt Go.RowKit

/-- The config's variable and the three lists, as they lie. -/
def Tab (w wr : World) (bc g1 g2 g3 : Nat) : Prop := Below w.heap.size w wr ∧ wr.heap[bc]? = some (.cells cfg 28 (0, 0)) ∧ wr.rangeAt g1 0 (flat bc ints) ∧ wr.rangeAt g2 0 (flat bc shares) ∧ wr.rangeAt g3 0 (switches bc)

theorem Tab.below {w wr w' : World} {bc g1 g2 g3 : Nat} (h : Tab w wr bc g1 g2 g3) (hb : Below wr.heap.size wr w') : Tab w w' bc g1 g2 g3 := by
  obtain ⟨h1, h2, h3, h4, h5⟩ := h
  refine ⟨h1.trans (hb.mono h1.size), below_block hb h2, rangeAt_below h3 hb (rangeAt_lt h3 ?_), rangeAt_below h4 hb (rangeAt_lt h4 ?_), rangeAt_below h5 hb (rangeAt_lt h5 ?_)⟩
  · rw [flat_len]; decide
  · rw [flat_len]; decide
  · show 0 < 4; decide

/-- The names gathered so far. -/
def Nm (w5 wr : World) (n : Nat) : Prop := wr.ownsRow w5.heap.size 9 1 (.slice (some ⟨w5.heap.size, 0, none⟩) n 22) n ((NL.take n).map Value.string) ∧ Below w5.heap.size w5 wr

theorem Nm.alloc {w5 wr : World} {n : Nat} (h : Nm w5 wr n) (o : Obj) : Nm w5 (wr.alloc o) n := ⟨h.1.alloc o, h.2.alloc h.2.size o⟩
theorem Nm.drewN {w5 wr : World} {n : Nat} (h : Nm w5 wr n) (k : Nat) : Nm w5 (wr.drewN k) n := ⟨h.1, below_drewN h.2 k⟩
theorem Nm.step {w5 wr w' : World} {n : Nat} (h : Nm w5 wr n) (hn : n < 22) (h1 : w'.ownsRow w5.heap.size 9 1 (.slice (some ⟨w5.heap.size, 0, none⟩) (n + 1) 22) (n + 1) ((NL.take n).map Value.string ++ [.string (NL[n]'(by rw [NL_len]; exact hn))])) (hg : wr.grownBy w' (some w5.heap.size)) : Nm w5 w' (n + 1) := by
  refine ⟨?_, below_grown h.2 hg h.2.size (Nat.le_refl _)⟩
  rw [List.take_succ_eq_append_getElem (by rw [NL_len]; exact hn), List.map_append]
  exact h1

theorem NL_ints (k : Nat) (hk : k < 15) : NL[k]'(by rw [NL_len]; omega) = (ints[k]'(by show k < 15; exact hk)).name := by
  unfold NL
  rw [List.getElem_append_left (by show k < 15; exact hk)]
  simp

theorem NL_shares (k : Nat) (hk : k < 6) : NL[15 + k]'(by rw [NL_len]; omega) = (shares[k]'(by show k < 6; exact hk)).name := by
  unfold NL
  rw [List.getElem_append_right (by show 15 ≤ 15 + k; omega)]
  have h : 15 + k - (ints.map (·.name)).length = k := by show 15 + k - 15 = k; omega
  rw [List.getElem_append_left (by rw [h]; show k < 6; exact hk)]
  simp only [List.getElem_map, h]
theorem NL_last : NL[21]'(by rw [NL_len]; omega) = n21 := rfl

theorem info9 : (Try.prog.info? 9).map (fun i => (i.zero, i.size, i.bytes)) = some (some (.string ByteArray.empty), 1, 16) := by kernel_rfl

set_option maxRecDepth 100000 in
set_option maxHeartbeats 4000000 in
theorem agrees_walk (w : World) : Calls Try.prog 3 #[] w fun e w' => e = .returned (.bool true) ∧ Below w.heap.size w w' := by
  obtain ⟨i9, hi9, hz9, hs9, hb9⟩ := info_parts info9
  go_enter Try.func3, Try.ntmps3
  go_wp2_with fail
  refine (default_any w).mono ?_
  rintro e w1 ⟨rfl, hb1⟩
  have hb2 : Below w.heap.size w (w1.alloc (.cells cfg 28)) := hb1.alloc hb1.size _
  have hc2 : (w1.alloc (.cells cfg 28)).heap[w1.heap.size]? = some (.cells cfg 28 (0, 0)) := Go.heap_alloc_new w1 _
  go_wp2_with (first | (refine wpList_alloc_row rfl 28 rfl _ 22 zeroI28 ?_) | (refine wpList_store_new rfl 28 _ _ rfl _ cfg rfl rfl size28 rfl (by kernel_rfl) ?_))
  generalize hbc : w1.heap.size = bc at *
  generalize w1.alloc (.cells cfg 28) = W2 at *
  clear hbc hb1
  refine (ints_any bc W2).mono ?_
  rintro e w3 ⟨g1, cap1, rfl, hg1, hr1, hb3⟩
  go_wp2_with fail
  refine (shares_any bc w3).mono ?_
  rintro e w4 ⟨rfl, hw4⟩
  have hb4 : Below w3.heap.size w3 w4 := by rw [hw4]; exact ((Below.refl _ _).alloc (Nat.le_refl _) _).drew
  have hr4 : w4.rangeAt w3.heap.size 0 (flat bc shares) := by rw [hw4]; exact fun j v hj => rangeAt_new w3 _ 42 j v hj
  clear hw4
  have k3 : Below w.heap.size w w3 := hb2.trans (hb3.mono hb2.size)
  have c3 := below_block hb3 hc2
  have k4 : Below w.heap.size w w4 := k3.trans (hb4.mono k3.size)
  have c4 := below_block hb4 c3
  have r14 := rangeAt_below hr1 hb4 (rangeAt_lt hr1 (by rw [flat_len]; decide))
  clear hb2 hb3 hc2 hr1 hb4 k3 c3 hg1
  generalize w3.heap.size = g2 at *
  go_wp2_with fail
  refine (switches_any bc w4).mono ?_
  rintro e w5 ⟨rfl, hw5⟩
  have hb5 : Below w4.heap.size w4 w5 := by rw [hw5]; exact (Below.refl _ _).alloc (Nat.le_refl _) _
  have hr5 : w5.rangeAt w4.heap.size 0 (switches bc) := by rw [hw5]; exact rangeAt_new w4 _ 45
  clear hw5
  have hT : Tab w w5 bc g1 g2 w4.heap.size := by
    refine ⟨k4.trans (hb5.mono k4.size), below_block hb5 c4, rangeAt_below r14 hb5 (rangeAt_lt r14 ?_), rangeAt_below hr4 hb5 (rangeAt_lt hr4 ?_), hr5⟩
    · rw [flat_len]; decide
    · rw [flat_len]; decide
  clear k4 c4 r14 hr4 hr5 hb5
  generalize w4.heap.size = g3 at *
  go_wp2_with (at_make; refine wpList_make_own _ rfl _ _ 36 rfl w5.heap.size 9 i9 _ 1 Try.underlying36 hi9 hz9 hs9 _ _ _ 22 rfl rfl rfl (by rw [hb9]; decide) (by decide) (Nat.le_refl _) ?_)
  intro w6 hown6 hgrow6
  have hN0 : Nm w5 w6 0 := ⟨hown6, (Below.refl _ _).grown hgrow6 (Nat.le_refl _) (fun k hk => by cases hk)⟩
  clear hown6 hgrow6
  try go_frame
  go_upto_block 0 with fail
  have hp37 := fun (wx : World) (o1 o2 : Nat) => eql_ptr 37 3 0 Try.underlying37 (by kernel_rfl) wx bc o1 o2
  go_cut [5] from 16 (fun s5 wx => s5 = .slice (some ⟨w5.heap.size, 0, none⟩) 15 22 ∧ Nm w5 wx 15)
  case first =>
    go_wp2_with fail
    go_loopw [5, 6] (fun s i wr => ∃ k : Nat, k ≤ 15 ∧ i = .int .i64 k ∧ s = .slice (some ⟨w5.heap.size, 0, none⟩) k 22 ∧ Nm w5 wr k) (fun _ i _ => 15 - (intOf i).toNat)
    case atStart => exact ⟨0, by omega, rfl, rfl, hN0⟩
    case round =>
      obtain ⟨k, hk, rfl, rfl, hN⟩ := hrel
      clear hN0
      by_cases hlt : k < 15
      · have hlt' : (k : Int) < 15 := by omega
        have hki : k < ints.length := hlt
        have hTr := hT.below hN.2
        obtain ⟨d, lo, hi, hd, hlo, hhi, hle1, hle2, hcf⟩ := ints_row ints[k] (List.getElem_mem _)
        have hnm := NL_ints k hlt
        have hrow : wr.rangeAt g1 (k * 6) [.string ints[k].name, .string ints[k].about, .pointer (some ⟨bc, ints[k].off, none⟩), .int .i64 d, .int .i64 lo, .int .i64 hi] := by
          have := range_row hTr.2.2.1 k hki
          rw [SRow.cells, hd, hlo, hhi] at this
          exact this
        have hcell : wr.cell? ⟨bc, ints[k].off, none⟩ = some (.int .i64 d) := by rw [cell_of_row wr bc _ cfg 28 (0, 0) hTr.2.1]; exact hcf
        have hblt : bc < wr.heap.size := (Array.getElem?_eq_some_iff.1 hTr.2.1).1
        have hglt : g1 < wr.heap.size := rangeAt_lt hrow (by simp)
        have hprev : ∀ q, q < k → ∃ oq, oq ≠ ints[k].off ∧ wr.cell? ⟨g1, q * 6 + 2, none⟩ = some (.pointer (some ⟨bc, oq, none⟩)) := fun q hq => by
          have hqi : q < ints.length := by show q < 15; omega
          exact ⟨ints[q].off, ints_apart q k hq hki, range_row hTr.2.2.1 q hqi 2 _ rfl⟩
        have hall : (#[.string ints[k].name, .string ints[k].about, .pointer (some ⟨bc, ints[k].off, none⟩), .int .i64 d, .int .i64 lo, .int .i64 hi] : Array Value).all (·.oneCell') = true := by kernel_rfl
        generalize ints[k].name = nm at *
        generalize ints[k].about = ab at *
        generalize ints[k].off = off at *
        have HP : Hid _ := hprev
        have HNM : Hid _ := hnm
        have n1 : ¬ d < lo := by omega
        have n2 : ¬ hi < d := by omega
        clear hprev hnm hd hlo hhi hcf hle1 hle2 hTr
        go_wp2_with (first | (refine wpList_load_mid rfl 39 _ rfl g1 (k * 6) rfl [.string nm, .string ab, .pointer (some ⟨bc, off, none⟩), .int .i64 d, .int .i64 lo, .int .i64 hi] _ hrow Try.underlying39 rfl size39 ?_) | (refine wpList_alloc_row rfl 39 rfl _ 6 zeroI39 ?_) | (refine wpList_store_new rfl 39 _ _ rfl _ #[.string nm, .string ab, .pointer (some ⟨bc, off, none⟩), .int .i64 d, .int .i64 lo, .int .i64 hi] rfl rfl size39 rfl hall ?_))
        go_quiet (fail)
        go_wp2
        have hN2 : ∀ n, Nm w5 ((wr.alloc (.cells #[.string nm, .string ab, .pointer (some ⟨bc, off, none⟩), .int .i64 d, .int .i64 lo, .int .i64 hi] 39)).drewN n) k := fun n => (hN.alloc _).drewN n
        go_loopw [8] (fun j wr2 => ∃ q nd : Nat, q ≤ k ∧ j = .int .i64 q ∧ wr2 = (wr.alloc (.cells #[.string nm, .string ab, .pointer (some ⟨bc, off, none⟩), .int .i64 d, .int .i64 lo, .int .i64 hi] 39)).drewN nd) (fun j _ => k - (intOf j).toNat)
        case atStart => exact ⟨0, _, Nat.zero_le _, rfl, rfl⟩
        case round =>
          obtain ⟨q, nd, hq, rfl, rfl⟩ := hrel
          by_cases hqk : q < k
          · have hqk' : (q : Int) < (k : Int) := by omega
            have hq15 : (q : Int) < 15 := by omega
            obtain ⟨oq, hne, hcq⟩ := HP.out q hqk
            have hne' : (oq == off) = false := by simp [hne]
            clear hne
            go_wp2
            go_quiet (fail)
            go_wp2
            go_roundw
            case rel => exact ⟨q + 1, _, by omega, by go_num, rfl⟩
            case measure => simp [intOf]; omega
          · have hqe : q = k := by omega
            subst hqe
            have hone : ∀ j u, [Value.string nm][j]? = some u → (((wr.alloc (.cells #[.string nm, .string ab, .pointer (some ⟨bc, off, none⟩), .int .i64 d, .int .i64 lo, .int .i64 hi] 39)).drewN nd).alloc (.cells #[.string nm] 9)).cell? ((⟨wr.heap.size + 1, 0, none⟩ : Addr).add j) = some u := by
              have h := cell_one_new ((wr.alloc (.cells #[.string nm, .string ab, .pointer (some ⟨bc, off, none⟩), .int .i64 d, .int .i64 lo, .int .i64 hi] 39)).drewN nd) (.string nm) 9
              have hs : ((wr.alloc (.cells #[.string nm, .string ab, .pointer (some ⟨bc, off, none⟩), .int .i64 d, .int .i64 lo, .int .i64 hi] 39)).drewN nd).heap.size = wr.heap.size + 1 := by
                show (wr.alloc (.cells #[.string nm, .string ab, .pointer (some ⟨bc, off, none⟩), .int .i64 d, .int .i64 lo, .int .i64 hi] 39)).heap.size = _
                exact size_alloc _ _
              rw [hs] at h
              exact h
            go_wp2_with (at_builtin; refine wpList_append_fits _ rfl _ _ 36 rfl w5.heap.size 9 i9 1 Try.underlying36 hi9 hs9 w5.heap.size q 22 ((NL.take q).map Value.string) rfl ((hN2 nd).alloc _).1 ⟨wr.heap.size + 1, 0, none⟩ 1 1 [.string nm] rfl rfl hone (by intro u hu; simp only [List.mem_cons, List.not_mem_nil, or_false] at hu; subst hu; rfl) (by omega) ?_)
            intro w' hown' hgr'
            have hN3 : Nm w5 w' (q + 1) := ((hN2 nd).alloc _).step (by omega) (by rw [HNM.out, List.map_take]; exact hown') hgr'
            try go_frame
            go_wp2
            go_roundw
            case rel => exact ⟨q + 1, by omega, by go_num, rfl, hN3⟩
            case measure => simp [intOf]; omega
      · have hk15 : k = 15 := by omega
        subst hk15
        go_wp2
        go_meet
        exact ⟨rfl, hN⟩
  case rest =>
  obtain ⟨rfl, hN15⟩ := hcut
  clear hN0 hp37
  go_upto_block 4 with fail
  have hp40 := fun (wx : World) (o1 o2 : Nat) => eql_ptr 40 24 0 Try.underlying40 (by kernel_rfl) wx bc o1 o2
  go_cut [5] from 16 (fun s5 wx => s5 = .slice (some ⟨w5.heap.size, 0, none⟩) 21 22 ∧ Nm w5 wx 21)
  case first =>
    go_wp2_with fail
    go_loopw [5, 9] (fun s i wr => ∃ k : Nat, k ≤ 6 ∧ i = .int .i64 k ∧ s = .slice (some ⟨w5.heap.size, 0, none⟩) (15 + k) 22 ∧ Nm w5 wr (15 + k)) (fun _ i _ => 6 - (intOf i).toNat)
    case atStart => exact ⟨0, by omega, rfl, rfl, hN15⟩
    case round =>
      obtain ⟨k, hk, rfl, rfl, hN⟩ := hrel
      clear hN15
      by_cases hlt : k < 6
      · have hlt' : (k : Int) < 6 := by omega
        have hki : k < shares.length := hlt
        have hTr := hT.below hN.2
        obtain ⟨d, lo, hi, hd, hlo, hhi, o1, o2, o3, hcf⟩ := shares_row shares[k] (List.getElem_mem _)
        have hnm := NL_shares k hlt
        have hrow : wr.rangeAt g2 (k * 6) [.string shares[k].name, .string shares[k].about, .pointer (some ⟨bc, shares[k].off, none⟩), .float .f64 d, .float .f64 lo, .float .f64 hi] := by
          have := range_row hTr.2.2.2.1 k hki
          rw [SRow.cells, hd, hlo, hhi] at this
          exact this
        have hcell : wr.cell? ⟨bc, shares[k].off, none⟩ = some (.float .f64 d) := by rw [cell_of_row wr bc _ cfg 28 (0, 0) hTr.2.1]; exact hcf
        have hblt : bc < wr.heap.size := (Array.getElem?_eq_some_iff.1 hTr.2.1).1
        have hglt : g2 < wr.heap.size := rangeAt_lt hrow (by simp)
        have hprev : ∀ q, q < k → ∃ oq, oq ≠ shares[k].off ∧ wr.cell? ⟨g2, q * 6 + 2, none⟩ = some (.pointer (some ⟨bc, oq, none⟩)) := fun q hq => by
          have hqi : q < shares.length := by show q < 6; omega
          exact ⟨shares[q].off, shares_apart q k hq hki, range_row hTr.2.2.2.1 q hqi 2 _ rfl⟩
        have hall : (#[.string shares[k].name, .string shares[k].about, .pointer (some ⟨bc, shares[k].off, none⟩), .float .f64 d, .float .f64 lo, .float .f64 hi] : Array Value).all (·.oneCell') = true := by kernel_rfl
        generalize shares[k].name = nm at *
        generalize shares[k].about = ab at *
        generalize shares[k].off = off at *
        have HP : Hid _ := hprev
        have HNM : Hid _ := hnm
        clear hprev hnm hd hlo hhi hcf hTr
        go_wp2_with (first | (refine wpList_load_mid rfl 42 _ rfl g2 (k * 6) rfl [.string nm, .string ab, .pointer (some ⟨bc, off, none⟩), .float .f64 d, .float .f64 lo, .float .f64 hi] _ hrow Try.underlying42 rfl size42 ?_) | (refine wpList_alloc_row rfl 42 rfl _ 6 zeroI42 ?_) | (refine wpList_store_new rfl 42 _ _ rfl _ #[.string nm, .string ab, .pointer (some ⟨bc, off, none⟩), .float .f64 d, .float .f64 lo, .float .f64 hi] rfl rfl size42 rfl hall ?_))
        go_quiet (fail)
        go_wp2
        have hN2 : ∀ n, Nm w5 ((wr.alloc (.cells #[.string nm, .string ab, .pointer (some ⟨bc, off, none⟩), .float .f64 d, .float .f64 lo, .float .f64 hi] 42)).drewN n) (15 + k) := fun n => (hN.alloc _).drewN n
        go_loopw [11] (fun j wr2 => ∃ q nd : Nat, q ≤ k ∧ j = .int .i64 q ∧ wr2 = (wr.alloc (.cells #[.string nm, .string ab, .pointer (some ⟨bc, off, none⟩), .float .f64 d, .float .f64 lo, .float .f64 hi] 42)).drewN nd) (fun j _ => k - (intOf j).toNat)
        case atStart => exact ⟨0, _, Nat.zero_le _, rfl, rfl⟩
        case round =>
          obtain ⟨q, nd, hq, rfl, rfl⟩ := hrel
          by_cases hqk : q < k
          · have hqk' : (q : Int) < (k : Int) := by omega
            have hq6 : (q : Int) < 6 := by omega
            obtain ⟨oq, hne, hcq⟩ := HP.out q hqk
            have hne' : (oq == off) = false := by simp [hne]
            clear hne
            go_wp2
            go_quiet (fail)
            go_wp2
            go_roundw
            case rel => exact ⟨q + 1, _, by omega, by go_num, rfl⟩
            case measure => simp [intOf]; omega
          · have hqe : q = k := by omega
            subst hqe
            have hone : ∀ j u, [Value.string nm][j]? = some u → (((wr.alloc (.cells #[.string nm, .string ab, .pointer (some ⟨bc, off, none⟩), .float .f64 d, .float .f64 lo, .float .f64 hi] 42)).drewN nd).alloc (.cells #[.string nm] 9)).cell? ((⟨wr.heap.size + 1, 0, none⟩ : Addr).add j) = some u := by
              have h := cell_one_new ((wr.alloc (.cells #[.string nm, .string ab, .pointer (some ⟨bc, off, none⟩), .float .f64 d, .float .f64 lo, .float .f64 hi] 42)).drewN nd) (.string nm) 9
              have hs : ((wr.alloc (.cells #[.string nm, .string ab, .pointer (some ⟨bc, off, none⟩), .float .f64 d, .float .f64 lo, .float .f64 hi] 42)).drewN nd).heap.size = wr.heap.size + 1 := by
                show (wr.alloc (.cells #[.string nm, .string ab, .pointer (some ⟨bc, off, none⟩), .float .f64 d, .float .f64 lo, .float .f64 hi] 42)).heap.size = _
                exact size_alloc _ _
              rw [hs] at h
              exact h
            go_wp2_with (at_builtin; refine wpList_append_fits _ rfl _ _ 36 rfl w5.heap.size 9 i9 1 Try.underlying36 hi9 hs9 w5.heap.size (15 + q) 22 ((NL.take (15 + q)).map Value.string) rfl ((hN2 nd).alloc _).1 ⟨wr.heap.size + 1, 0, none⟩ 1 1 [.string nm] rfl rfl hone (by intro u hu; simp only [List.mem_cons, List.not_mem_nil, or_false] at hu; subst hu; rfl) (by omega) ?_)
            intro w' hown' hgr'
            have hN3 : Nm w5 w' (15 + q + 1) := ((hN2 nd).alloc _).step (by omega) (by rw [HNM.out, List.map_take]; exact hown') hgr'
            try go_frame
            go_wp2
            go_roundw
            case rel => exact ⟨q + 1, by omega, by go_num, rfl, hN3⟩
            case measure => simp [intOf]; omega
      · have hk15 : k = 6 := by omega
        subst hk15
        go_wp2
        go_meet
        exact ⟨rfl, hN⟩
  case rest =>
  obtain ⟨rfl, hN21⟩ := hcut
  clear hp40
  go_upto_block 8 with fail
  go_cut [5] from 16 (fun s5 wx => s5 = .slice (some ⟨w5.heap.size, 0, none⟩) 22 22 ∧ Nm w5 wx 22)
  case first =>
    go_wp2_with fail
    go_loopw [5, 12] (fun s i wr => ∃ k : Nat, k ≤ 1 ∧ i = .int .i64 k ∧ s = .slice (some ⟨w5.heap.size, 0, none⟩) (21 + k) 22 ∧ Nm w5 wr (21 + k)) (fun _ i _ => 1 - (intOf i).toNat)
    case atStart => exact ⟨0, by omega, rfl, rfl, hN21⟩
    case round =>
      obtain ⟨k, hk, rfl, rfl, hN⟩ := hrel
      clear hN21
      by_cases hlt : k < 1
      · have hlt' : (k : Int) < 1 := by omega
        have hTr := hT.below hN.2
        have hrow : wr.rangeAt g3 (k * 4) [.string n21, .string a21, .pointer (some ⟨bc, 13, none⟩), .bool true] := by
          have hk0 : k = 0 := by omega
          subst hk0
          exact hTr.2.2.2.2
        have hcell : wr.cell? ⟨bc, 13, none⟩ = some (.bool true) := by rw [cell_of_row wr bc _ cfg 28 (0, 0) hTr.2.1]; rfl
        have hblt : bc < wr.heap.size := (Array.getElem?_eq_some_iff.1 hTr.2.1).1
        have hglt : g3 < wr.heap.size := rangeAt_lt hrow (by simp)
        have hall : (#[.string n21, .string a21, .pointer (some ⟨bc, 13, none⟩), .bool true] : Array Value).all (·.oneCell') = true := by kernel_rfl
        have hnm : NL[21 + k]'(by rw [NL_len]; omega) = n21 := by
          have hk0 : k = 0 := by omega
          subst hk0
          exact NL_last
        have HNM : Hid _ := hnm
        clear hTr hnm
        go_wp2_with (first | (refine wpList_load_mid rfl 45 _ rfl g3 (k * 4) rfl [.string n21, .string a21, .pointer (some ⟨bc, 13, none⟩), .bool true] _ hrow Try.underlying45 rfl size45 ?_) | (refine wpList_alloc_row rfl 45 rfl _ 4 zeroI45 ?_) | (refine wpList_store_new rfl 45 _ _ rfl _ #[.string n21, .string a21, .pointer (some ⟨bc, 13, none⟩), .bool true] rfl rfl size45 rfl hall ?_))
        go_quiet (fail)
        have hN2 : ∀ n, Nm w5 ((wr.alloc (.cells #[.string n21, .string a21, .pointer (some ⟨bc, 13, none⟩), .bool true] 45)).drewN n) (21 + k) := fun n => (hN.alloc _).drewN n
        have hone : ∀ nd j u, [Value.string n21][j]? = some u → (((wr.alloc (.cells #[.string n21, .string a21, .pointer (some ⟨bc, 13, none⟩), .bool true] 45)).drewN nd).alloc (.cells #[.string n21] 9)).cell? ((⟨wr.heap.size + 1, 0, none⟩ : Addr).add j) = some u := by
          intro nd
          have h := cell_one_new ((wr.alloc (.cells #[.string n21, .string a21, .pointer (some ⟨bc, 13, none⟩), .bool true] 45)).drewN nd) (.string n21) 9
          have hs : ((wr.alloc (.cells #[.string n21, .string a21, .pointer (some ⟨bc, 13, none⟩), .bool true] 45)).drewN nd).heap.size = wr.heap.size + 1 := by
            show (wr.alloc (.cells #[.string n21, .string a21, .pointer (some ⟨bc, 13, none⟩), .bool true] 45)).heap.size = _
            exact size_alloc _ _
          rw [hs] at h
          exact h
        go_wp2_with (at_builtin; refine wpList_append_fits _ rfl _ _ 36 rfl w5.heap.size 9 i9 1 Try.underlying36 hi9 hs9 w5.heap.size (21 + k) 22 ((NL.take (21 + k)).map Value.string) rfl ((hN2 _).alloc _).1 ⟨wr.heap.size + 1, 0, none⟩ 1 1 [.string n21] rfl rfl (hone _) (by intro u hu; simp only [List.mem_cons, List.not_mem_nil, or_false] at hu; subst hu; rfl) (by omega) ?_)
        intro w' hown' hgr'
        have hN3 : Nm w5 w' (21 + k + 1) := ((hN2 _).alloc _).step (by omega) (by rw [HNM.out, List.map_take]; exact hown') hgr'
        try go_frame
        go_wp2
        go_roundw
        case rel => exact ⟨k + 1, by omega, by go_num, rfl, hN3⟩
        case measure => simp [intOf]; omega
      · have hk15 : k = 1 := by omega
        subst hk15
        go_wp2
        go_meet
        exact ⟨rfl, hN⟩
  case rest =>
  obtain ⟨rfl, hN22⟩ := hcut
  have hcells : ∀ k, (hk : k < 22) → wc.cell? ⟨w5.heap.size, k, none⟩ = some (.string (NL[k]'(by rw [NL_len]; exact hk))) := fun k hk => by
    rw [hN22.1.cellAt k (by omega), List.take_of_length_le (Nat.le_of_eq NL_len), List.getElem?_map, List.getElem?_eq_getElem (by rw [NL_len]; exact hk)]
    rfl
  have hlt5 : w5.heap.size < wc.heap.size := block_lt_of_cell (hcells 0 (by omega))
  have hbel : ∀ n, Below w.heap.size w (wc.drewN n) := fun n => below_drewN (hT.1.trans (hN22.2.mono hT.1.size)) n
  clear hN22 hT
  generalize w5.heap.size = gn at *
  go_wp2_with fail
  go_loopw [14] (fun i wr => ∃ k nd : Nat, k ≤ 22 ∧ i = .int .i64 k ∧ wr = wc.drewN nd) (fun i _ => 22 - (intOf i).toNat)
  case atStart => exact ⟨0, 0, by omega, rfl, rfl⟩
  case round =>
    obtain ⟨k, nd, hk, rfl, rfl⟩ := hrel
    by_cases hlt : k < 22
    · have hlt' : (k : Int) < 22 := by omega
      have hck := hcells k hlt
      have hfull := NL_full _ (List.getElem_mem (by rw [NL_len]; exact hlt) : NL[k]'(by rw [NL_len]; exact hlt) ∈ NL)
      have hap : ∀ q, (hq : q < k) → (NL[q]'(by rw [NL_len]; omega)).toList ≠ (NL[k]'(by rw [NL_len]; omega)).toList := fun q hq => NL_apart q k hq hlt
      generalize (NL[k]'(by rw [NL_len]; exact hlt)) = nk at *
      have HP : Hid _ := hap
      have HC : Hid _ := hcells
      clear hap hcells
      have hz1 : ¬ (nk.size : Int) = 0 := by omega
      have hz2 : ((nk.size : Int) == 0) = false := by simpa using hz1
      go_wp2
      go_loopw [15] (fun j wr2 => ∃ q nd2 : Nat, q ≤ k ∧ j = .int .i64 q ∧ wr2 = wc.drewN nd2) (fun j _ => k - (intOf j).toNat)
      case atStart => exact ⟨0, _, Nat.zero_le _, rfl, rfl⟩
      case round =>
        obtain ⟨q, nd2, hq, rfl, rfl⟩ := hrel
        by_cases hqk : q < k
        · have hqk' : (q : Int) < (k : Int) := by omega
          have hq22 : (q : Int) < 22 := by omega
          have hcq := HC.out q (by omega)
          have hne := HP.out q hqk
          generalize (NL[q]'(by rw [NL_len]; omega)) = nq at *
          have hne' : (nq.toList == nk.toList) = false := by simp [hne]
          clear hne
          go_wp2
          go_quiet (fail)
          go_wp2
          go_roundw
          case rel => exact ⟨q + 1, _, by omega, by go_num, rfl⟩
          case measure => simp [intOf]; omega
        · have hqe : q = k := by omega
          subst hqe
          go_wp2
          go_roundw
          case rel => exact ⟨q + 1, _, by omega, by go_num, rfl⟩
          case measure => simp [intOf]; omega
    · have hk15 : k = 22 := by omega
      subst hk15
      go_wp2
      go_ret
      exact ⟨rfl, hbel _⟩

end Go.Proofs.Qxb6627778a
