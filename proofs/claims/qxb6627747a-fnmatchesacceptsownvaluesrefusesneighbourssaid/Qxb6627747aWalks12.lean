/- WALKS OF SEAT b6627747a, 12: the law FnMatchesAcceptsOwnValuesRefusesNeighbours, its main road. -/
import Derived.Test.Qxb6627747aWalks11
import Derived.Deep.DeepCutAuto
namespace Go.Proofs.Qxb6627747a
open Go.ChangeShapes Go.WideShapes Go.ChangeAt Go.RowKit
open Go.Maps (Keyed)

set_option maxRecDepth 100000 in
set_option maxHeartbeats 4000000 in
theorem law4_main (at_ ot : ByteArray) (m rt : List Int) (a : Option Addr) (vals : List (List Int)) (cap p : Nat) (mask out : Int) (w : World) (hm : m.length = 48) (hrt : rt.length = 192)
    (hs : SliceAt w (.slice a vals.length cap) vals) (hmk : 0 ≤ mask ∧ mask ≤ 255) (hwo : (Lit.int .i64 out).wf = true)
    (c1 : ¬ 1048576 < (at_.size : Int)) (c2 : ¬ 1048576 < (ot.size : Int)) (c3 : ¬ 4096 < (vals.length : Int)) (c4 : ¬ 1048576 < (at_.size : Int) + ot.size + 48 * vals.length) (hp : p ≤ vals.length) (hout : out < 0 ∨ 5 ≤ out) :
    Calls Try.prog 4 #[.string at_, .string ot, .agg (bs m).toArray, .agg (bs rt).toArray, .slice a vals.length cap, .int .i64 p, .int .u8 mask, .int .i64 out] w fun e w' => e = .returned (.bool true) ∧ Below w.heap.size w w' := by
  have hmid0 := mid6_start w m rt
  have hp' : ¬ (vals.length : Int) < (p : Int) := by omega
  have hp0 : ¬ (p : Int) < 0 := by omega
  have HS : Hid _ := hs
  have HO : Hid _ := hout
  have hmax : vals.length ≤ 4096 := by omega
  clear hs hout
  go_enter Try.func4, Try.ntmps4
  go_wp2_with (first | (refine wpList_load_mid rfl 23 _ rfl w.heap.size 0 rfl (bs m) _ hmid0.2.1 Try.underlying23 rfl (info23l _ hm) ?_) | (refine wpList_load_mid rfl 24 _ rfl (w.heap.size + 1) 0 rfl (bs rt) _ hmid0.2.2 Try.underlying24 rfl (info24l _ hrt) ?_))
  refine (bytes_any at_ ot m rt a vals.length cap p mask out _ (by unfold maxLen; omega) (by unfold maxLen; omega) (by unfold maxLen; omega)).mono ?_
  rintro e w1 ⟨⟨b, rfl⟩, hw1⟩
  have hmid1 : Mid6 w w1 m rt := by rw [hw1]; exact hmid0.below hm hrt (below_two _ _ _)
  clear hw1 hmid0
  cases b
  · go_wp2
    go_ret
    exact ⟨rfl, hmid1.1⟩
  go_upto_region 9 with fail
  go_cut [71] from 25 (fun s wx => s = .bool false ∧ wx = w1)
  case first =>
    by_cases hx : out < 0
    · have hx' : ¬ 0 ≤ out := by omega
      go_wp2
      go_meet
      exact ⟨rfl, rfl⟩
    · have hx' : 0 ≤ out := by omega
      have hx5 : ¬ out < 5 := by rcases HO.out with h | h <;> omega
      go_wp2
      go_meet
      exact ⟨rfl, rfl⟩
  case rest =>
  obtain ⟨rfl, rfl⟩ := hcut
  go_wp2_with (first | (refine wpList_load_mid rfl 23 _ rfl w.heap.size 0 rfl (bs m) _ hmid1.2.1 Try.underlying23 rfl (info23l _ hm) ?_) | (refine wpList_load_mid rfl 24 _ rfl (w.heap.size + 1) 0 rfl (bs rt) _ hmid1.2.2 Try.underlying24 rfl (info24l _ hrt) ?_) | (refine wpList_build35 _ rfl _ _ rfl m rt hm hrt rfl rfl ?_))
  intro cs hcs1 hcs2
  have hmid2 := Mid4.body hmid1 cs hcs1 hcs2 hm hrt
  clear hcs1 hcs2
  try go_frame
  go_wp2_with (first | (refine wpList_load_mid rfl 23 _ rfl w.heap.size 0 rfl (bs m) _ hmid2.1.2.1 Try.underlying23 rfl (info23l _ hm) ?_) | (refine wpList_load_mid rfl 24 _ rfl (w.heap.size + 1) 0 rfl (bs rt) _ hmid2.1.2.2 Try.underlying24 rfl (info24l _ hrt) ?_))
  refine (build_any mask m rt _ vals p _ hmk hm hrt (sliceAt_below HS.out hmid2.1.1) hp hmax).mono ?_
  rintro e w3 ⟨bm, D, rfl, hbm, hB, hb3⟩
  have hmid3 := hmid2.below hm hrt hb3
  clear hmid2 hb3 hbm
  go_wp2_with fail
  have hal : Below w3.heap.size w3 (w3.alloc (.cells #[.string ⟨#[105, 109, 103]⟩, .string at_, .map (some bm)] 29)) := (Below.refl _ _).alloc (Nat.le_refl _) _
  have hec := entry_cells w3 ⟨#[105, 109, 103]⟩ at_ bm
  have hmid4 := hmid3.below hm hrt hal
  have hB4 := hB.below hal
  have hyes : (true = true ↔ (at_.toList == at_.toList) = true ∧ ∀ k : Int, Maps.has D (.int .i64 k) = true → 0 ≤ k ∧ k < 5 ∧ (ins vals p (regOf m rt k.toNat)).contains (regOf m rt k.toNat) = true) :=
    ⟨fun _ => ⟨beq_self_eq_true _, fun k hk => ⟨(hB.2.1 k hk).1, (hB.2.1 k hk).2, ins_contains _ _ _⟩⟩, fun _ => rfl⟩
  refine (zz_built (w := w) (V := fun k => ins vals p (regOf m rt k.toNat)) true hmid4 hm hrt hB4.1 hB4.2.2 hec.1 hec.2 hyes).mono ?_
  rintro e w5 ⟨rfl, hb5⟩
  have hmid5 := hmid4.below hm hrt hb5
  have hB5 := hB4.below hb5
  have hc51 : w5.cell? ⟨w3.heap.size, 1, none⟩ = some (.string at_) := by rw [hb5.cell (p := ⟨w3.heap.size, 1, none⟩) (block_lt_of_cell hec.1)]; exact hec.1
  have hc52 : w5.cell? ⟨w3.heap.size, 2, none⟩ = some (.map (some bm)) := by rw [hb5.cell (p := ⟨w3.heap.size, 2, none⟩) (block_lt_of_cell hec.2)]; exact hec.2
  clear hal hec hmid4 hB4 hyes hb5 hmid3
  go_upto_region 16 with fail
  go_cut [99] from 25 (fun s wx => s = .bool false ∧ Mid4 w wx m rt wc.heap.size)
  case first =>
    cases hE : (ot.toList == at_.toList)
    · have hno : (false = true ↔ (at_.toList == ot.toList) = true ∧ ∀ k : Int, Maps.has D (.int .i64 k) = true → 0 ≤ k ∧ k < 5 ∧ (ins vals p (regOf m rt k.toNat)).contains (regOf m rt k.toNat) = true) :=
        ⟨fun h => (by cases h), fun h => (by have h1 := h.1; rw [BEq.comm, hE] at h1; exact h1)⟩
      have HNO : Hid _ := hno
      clear hno
      go_wp2_with fail
      refine (zz_built (w := w) (V := fun k => ins vals p (regOf m rt k.toNat)) false hmid5 hm hrt hB5.1 hB5.2.2 hc51 hc52 HNO.out).mono ?_
      rintro e w6 ⟨rfl, hb6⟩
      have hmid6 := hmid5.below hm hrt hb6
      go_wp2
      go_meet
      exact ⟨rfl, hmid6⟩
    · go_wp2
      go_meet
      exact ⟨rfl, hmid5⟩
  case rest =>
  obtain ⟨rfl, hmid6⟩ := hcut
  clear hmid5 hB5 hc51 hc52 hB hmid1
  go_wp2_with (first | (refine wpList_load_mid rfl 23 _ rfl w.heap.size 0 rfl (bs m) _ hmid6.1.2.1 Try.underlying23 rfl (info23l _ hm) ?_) | (refine wpList_load_mid rfl 24 _ rfl (w.heap.size + 1) 0 rfl (bs rt) _ hmid6.1.2.2 Try.underlying24 rfl (info24l _ hrt) ?_))
  refine (build_any mask m rt _ vals p _ hmk hm hrt (sliceAt_below HS.out hmid6.1.1) hp hmax).mono ?_
  rintro e w7 ⟨bm7, D7, rfl, hbm7, hB7, hb7⟩
  have hmid7 := hmid6.below hm hrt hb7
  have hbm7' : w.heap.size ≤ bm7 := Nat.le_trans hmid6.1.1.size hbm7
  clear hmid6 hb7 hbm7
  go_wp2_with (refine wpList_load_mid rfl 23 _ rfl w.heap.size 0 rfl (bs m) _ hmid7.1.2.1 Try.underlying23 rfl (info23l _ hm) ?_)
  refine (insert_any _ vals p m _ (sliceAt_below HS.out hmid7.1.1) hm hp hmax).mono ?_
  rintro e w8 ⟨a8, l8, c8, rfl, hs8, hb8⟩
  have hmid8 := hmid7.below hm hrt hb8
  have hB8 := hB7.below hb8
  clear hmid7 hB7 hb8
  go_wp2_with (at_mapUpdate; refine wpList_mapUpdate_own _ rfl _ _ _ 22 rfl 3 25 law3 Try.underlying22 tok bm7 5 D7 rfl hB8.1 (by unfold maxLen; omega) _ _ _ rfl rfl (Maps.keyOf_int_mk Try.underlying3 hwo) _ [] tok_slice ?_)
  intro w9 hown9 hg9
  have hmid9 := hmid8.grown hg9 (ownsMap_isMap hB8.1) hbm7'
  have hV9 := put_slice (V' := fun k => if k = out then ins vals p m else ins vals p (regOf m rt k.toNat)) hB8.1 hB8.2.2 hg9 (key := out) (sl := .slice a8 l8 c8) (by rw [if_pos rfl]; exact hs8) (fun k hk => if_neg hk)
  have hno9 : (false = true ↔ (at_.toList == at_.toList) = true ∧ ∀ k : Int, Maps.has (D7.put (.int .i64 out) (.held (.slice a8 l8 c8))) (.int .i64 k) = true → 0 ≤ k ∧ k < 5 ∧ (if k = out then ins vals p m else ins vals p (regOf m rt k.toNat)).contains (regOf m rt k.toNat) = true) := by
    refine ⟨fun h => (by cases h), fun h => ?_⟩
    have h1 := h.2 out ((put_has ((hB8.1.tidy law3).isMap) out).2 (.inl rfl))
    rcases HO.out with h' | h' <;> omega
  have HNO : Hid _ := hno9
  have HV9 : Hid _ := hV9
  clear hno9 hV9 hmid8 hg9 hs8 hB8
  try go_frame
  go_wp2_with fail
  have hal : Below w9.heap.size w9 (w9.alloc (.cells #[.string ⟨#[105, 109, 103]⟩, .string at_, .map (some bm7)] 29)) := (Below.refl _ _).alloc (Nat.le_refl _) _
  have hec := entry_cells w9 ⟨#[105, 109, 103]⟩ at_ bm7
  refine (zz_built (w := w) (V := fun k => if k = out then ins vals p m else ins vals p (regOf m rt k.toNat)) false (hmid9.below hm hrt hal) hm hrt (ownsMap_below hown9 hal hown9.lt) (fun k v hk => sliceAt_below (HV9.out k v hk) hal) hec.1 hec.2 HNO.out).mono ?_
  rintro e w10 ⟨rfl, hb10⟩
  have hmid10 := (hmid9.below hm hrt hal).below hm hrt hb10
  clear hmid9 hb10 hal hec HNO HV9 hown9
  go_wp2
  obtain ⟨mk0, mk1⟩ := hmk
  go_loop [21, 22] (fun l i => ∃ k : Nat, k ≤ 5 ∧ i = .int .i64 k ∧ l = .int .i64 (-1)) (fun _ i => 5 - (intOf i).toNat)
  case atStart => exact ⟨0, by omega, rfl, rfl⟩
  case round =>
    obtain ⟨k, hk, rfl, rfl⟩ := hrel
    by_cases hlt : k < 5
    · have hlt' : (k : Int) < 5 := by omega
      have hk0 : (0 : Int) ≤ (k : Int) := by omega
      go_wp2_with (first | (refine wpList_load_mid rfl 23 _ rfl w.heap.size 0 rfl (bs m) _ hmid10.1.2.1 Try.underlying23 rfl (info23l _ hm) ?_) | (refine wpList_load_mid rfl 24 _ rfl (w.heap.size + 1) 0 rfl (bs rt) _ hmid10.1.2.2 Try.underlying24 rfl (info24l _ hrt) ?_))
      · refine (build_any mask m rt _ vals p _ ⟨mk0, mk1⟩ hm hrt (sliceAt_below HS.out hmid10.1.1) hp hmax).mono ?_
        rintro e w11 ⟨bm11, D11, rfl, hbm11, hB11, hb11⟩
        have hmid11 := hmid10.below hm hrt hb11
        have hbm11' : w.heap.size ≤ bm11 := Nat.le_trans hmid10.1.1.size hbm11
        have hsl11 := sliceAt_below HS.out hmid11.1.1
        clear hmid10 hb11 hbm11
        go_wp2_with (at_mapUpdate; refine wpList_mapUpdate_own _ rfl _ _ _ 22 rfl 3 25 law3 Try.underlying22 tok bm11 5 D11 rfl hB11.1 (by unfold maxLen; omega) _ _ _ rfl rfl (Maps.keyOf_int_mk Try.underlying3 (WalkArith.wf_i64 (by omega))) _ [] tok_slice ?_)
        intro w12 hown12 hg12
        have hmid12 := hmid11.grown hg12 (ownsMap_isMap hB11.1) hbm11'
        have hV12 := put_slice (V' := fun q => if q = (k : Int) then vals else ins vals p (regOf m rt q.toNat)) hB11.1 hB11.2.2 hg12 (key := (k : Int)) (sl := .slice a vals.length cap) (by rw [if_pos rfl]; exact hsl11) (fun q hq => if_neg hq)
        have hreglen := regOf_length m rt k hm hrt hlt
        have hres : ((vals.contains (regOf m rt k)) = true ↔ (at_.toList == at_.toList) = true ∧ ∀ q : Int, Maps.has (D11.put (.int .i64 (k : Int)) (.held (.slice a vals.length cap))) (.int .i64 q) = true → 0 ≤ q ∧ q < 5 ∧ (if q = (k : Int) then vals else ins vals p (regOf m rt q.toNat)).contains (regOf m rt q.toNat) = true) := by
          constructor
          · intro h
            refine ⟨beq_self_eq_true _, fun q hq => ?_⟩
            rcases (put_has ((hB11.1.tidy law3).isMap) q).1 hq with rfl | h'
            · refine ⟨hk0, hlt', ?_⟩
              rw [if_pos rfl]
              simpa using h
            · obtain ⟨q0, q5⟩ := hB11.2.1 q h'
              refine ⟨q0, q5, ?_⟩
              by_cases e : q = (k : Int)
              · subst e
                rw [if_pos rfl]
                simpa using h
              · rw [if_neg e]
                exact ins_contains _ _ _
          · intro h
            have := (h.2 (k : Int) ((put_has ((hB11.1.tidy law3).isMap) _).2 (.inl rfl))).2.2
            rw [if_pos rfl] at this
            simpa using this
        generalize hcc : vals.contains (regOf m rt k) = cc at hres
        have HCC : Hid _ := hcc
        have HR : Hid _ := hres
        have HV : Hid _ := hV12
        clear hcc hres hV12 hmid11 hg12 hsl11 hB11
        try go_frame
        go_wp2_with (first | (refine wpList_load_mid rfl 23 _ rfl w.heap.size 0 rfl (bs m) _ hmid12.1.2.1 Try.underlying23 rfl (info23l _ hm) ?_) | (refine wpList_load_mid rfl 24 _ rfl (w.heap.size + 1) 0 rfl (bs rt) _ hmid12.1.2.2 Try.underlying24 rfl (info24l _ hrt) ?_))
        refine (register_any k m rt _ hlt hm hrt).mono ?_
        rintro e w13 ⟨rfl, hb13⟩
        have hmid13 := hmid12.below hm hrt hb13
        go_wp2_with fail
        refine (holds_any _ vals (regOf m rt k) _ (sliceAt_below HS.out hmid13.1.1) hreglen).mono ?_
        rintro e w14 ⟨rfl, hb14⟩
        rw [HCC.out]
        have hmid14 := hmid13.below hm hrt hb14
        have hown14 := ownsMap_below (ownsMap_below hown12 hb13 hown12.lt) hb14 (Nat.lt_of_lt_of_le hown12.lt hb13.size)
        have hV14 : ∀ q v, (D11.put (.int .i64 (k : Int)) (.held (.slice a vals.length cap))).atKey (.int .i64 q) .nil = .held v → SliceAt w14 v (if q = (k : Int) then vals else ins vals p (regOf m rt q.toNat)) := fun q v hq => sliceAt_below (sliceAt_below (HV.out q v hq) hb13) hb14
        have HV14 : Hid _ := hV14
        clear hV14 HV hown12 hmid12 hmid13 hb13 hb14
        go_wp2_with fail
        have hal : Below w14.heap.size w14 (w14.alloc (.cells #[.string ⟨#[105, 109, 103]⟩, .string at_, .map (some bm11)] 29)) := (Below.refl _ _).alloc (Nat.le_refl _) _
        have hec := entry_cells w14 ⟨#[105, 109, 103]⟩ at_ bm11
        refine (zz_built (w := w) (V := fun q => if q = (k : Int) then vals else ins vals p (regOf m rt q.toNat)) cc (hmid14.below hm hrt hal) hm hrt (ownsMap_below hown14 hal hown14.lt) (fun q v hq => sliceAt_below (HV14.out q v hq) hal) hec.1 hec.2 HR.out).mono ?_
        rintro e w15 ⟨rfl, hb15⟩
        have hmid15 := (hmid14.below hm hrt hal).below hm hrt hb15
        clear hmid14 hb15 hal hec HR HV14 hown14 HCC
        cases cc
        · go_wp2
          go_ret
          exact ⟨rfl, hmid15.1.1⟩
        · go_wp2
          go_ret
          exact ⟨rfl, hmid15.1.1⟩
      · go_round
        case rel => exact ⟨k + 1, by omega, by go_num, rfl⟩
        case measure => simp [intOf]; omega
    · have hk5 : k = 5 := by omega
      subst hk5
      go_wp2
      go_ret
      exact ⟨rfl, hmid10.1.1⟩

end Go.Proofs.Qxb6627747a
