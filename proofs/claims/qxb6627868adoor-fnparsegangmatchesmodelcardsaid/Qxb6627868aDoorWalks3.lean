/- SEAT b6627868aD, WALKS 3: ParseGang where no gang is named. -/
import Derived.Test.Qxb6627868aDoorWalks2
namespace Go.Proofs.Qxb6627868aDoor
open Go.ChangeShapes Go.WideShapes Go.ChangeAt Go.RowKit

set_option maxHeartbeats 1000000 in
theorem parse_unnamed (id card minc lab : ByteArray) (hid : id.toList = []) (w : World) :
    Calls Tryd.prog 6 #[.agg #[.string id, .string card, .string minc, .string lab]] w fun e w' => PGEnds (pg id card minc lab) e w' ∧ Below w.heap.size w w' := by
  have hSA := (st0 id card minc lab w).alloc (.cells #[.int .i64 2, .string card, .int .i64 3, .string minc, .int .i64 4, .string lab] 39)
  have hpg : pg id card minc lab = if card.toList ≠ [] then .fault 0 2 card E0 0 0 E0 else if minc.toList ≠ [] then .fault 0 3 minc E0 0 0 E0 else if lab.toList ≠ [] then .fault 0 4 lab E0 0 0 E0 else .gang id 0 0 E0 := by unfold pg; rw [if_pos hid]
  have HPG : Hid _ := hpg
  have e1 : (id.toList == ([] : List UInt8)) = true := by simp [hid]
  clear hpg hid
  go_enter Tryd.func6, Tryd.ntmps6
  go_wp2_with fail
  go_loopw [28] (fun i wr => ∃ k : Nat, k ≤ 3 ∧ i = .int .i64 k ∧ St w wr #[.string id, .string card, .string minc, .string lab] (gcells E0 0 0 E0) (gcells id 0 0 E0) ∧ (0 < k → card.toList = []) ∧ (1 < k → minc.toList = []) ∧ (2 < k → lab.toList = [])) (fun i _ => 3 - (intOf i).toNat)
  case atStart => exact ⟨0, by omega, rfl, hSA, fun h => absurd h (by omega), fun h => absurd h (by omega), fun h => absurd h (by omega)⟩
  case round =>
    obtain ⟨k, hk, rfl, hS, p1, p2, p3⟩ := hrel
    clear hSA
    have r0 : wr.cell? ⟨w.heap.size + 1, 0, none⟩ = some (.string E0) := by rw [cell_of_row wr _ _ _ 24 (0, 0) hS.r]; rfl
    have r1 : wr.cell? ⟨w.heap.size + 1, 1, none⟩ = some (.int .i64 0) := by rw [cell_of_row wr _ _ _ 24 (0, 0) hS.r]; rfl
    have r2 : wr.cell? ⟨w.heap.size + 1, 2, none⟩ = some (.int .i64 0) := by rw [cell_of_row wr _ _ _ 24 (0, 0) hS.r]; rfl
    have r3 : wr.cell? ⟨w.heap.size + 1, 3, none⟩ = some (.string E0) := by rw [cell_of_row wr _ _ _ 24 (0, 0) hS.r]; rfl
    have g0 : wr.cell? ⟨w.heap.size + 1 + 1, 0, none⟩ = some (.string id) := by rw [cell_of_row wr _ _ _ 24 (0, 0) hS.g]; rfl
    have g1 : wr.cell? ⟨w.heap.size + 1 + 1, 1, none⟩ = some (.int .i64 0) := by rw [cell_of_row wr _ _ _ 24 (0, 0) hS.g]; rfl
    have g2 : wr.cell? ⟨w.heap.size + 1 + 1, 2, none⟩ = some (.int .i64 0) := by rw [cell_of_row wr _ _ _ 24 (0, 0) hS.g]; rfl
    have g3 : wr.cell? ⟨w.heap.size + 1 + 1, 3, none⟩ = some (.string E0) := by rw [cell_of_row wr _ _ _ 24 (0, 0) hS.g]; rfl
    have fz0 := frozen_of_row wr (w.heap.size + 1) 0 _ 24 hS.r
    have fz1 := frozen_of_row wr (w.heap.size + 1) 1 _ 24 hS.r
    have fz2 := frozen_of_row wr (w.heap.size + 1) 2 _ 24 hS.r
    have fz3 := frozen_of_row wr (w.heap.size + 1) 3 _ 24 hS.r
    have hl2 : w.heap.size < wr.heap.size := (Array.getElem?_eq_some_iff.1 hS.s).1
    have hl3 : w.heap.size + 1 < wr.heap.size := (Array.getElem?_eq_some_iff.1 hS.r).1
    have hl4 : w.heap.size + 1 + 1 < wr.heap.size := (Array.getElem?_eq_some_iff.1 hS.g).1
    have idx0 : (Instr.index 39 (.agg #[.int .i64 2, .string card, .int .i64 3, .string minc, .int .i64 4, .string lab]) (.int .i64 0)).run Tryd.prog wr = .ok (.agg #[.int .i64 2, .string card]) wr := by kernel_rfl
    have idx1 : (Instr.index 39 (.agg #[.int .i64 2, .string card, .int .i64 3, .string minc, .int .i64 4, .string lab]) (.int .i64 1)).run Tryd.prog wr = .ok (.agg #[.int .i64 3, .string minc]) wr := by kernel_rfl
    have idx2 : (Instr.index 39 (.agg #[.int .i64 2, .string card, .int .i64 3, .string minc, .int .i64 4, .string lab]) (.int .i64 2)).run Tryd.prog wr = .ok (.agg #[.int .i64 4, .string lab]) wr := by kernel_rfl
    match k, hk with
    | 0, _ =>
      by_cases hne : card.toList = []
      · skip
        have e3 : (card.toList == ([] : List UInt8)) = true := by simp [hne]
        have e4 : (card.toList != ([] : List UInt8)) = false := by rw [bne, e3]; rfl
        have HNE : Hid _ := hne
        have P1 : Hid _ := p1
        have P2 : Hid _ := p2
        clear hne p1 p2 p3
        go_wp2
        have hS6 := hS.alloc (.cells #[.int .i64 2, .string card] 38)
        go_roundw
        case rel => exact ⟨1, by omega, rfl, hS6, fun _ => HNE.out, fun h => absurd h (by omega), fun h => absurd h (by omega)⟩
        case measure => simp [intOf]
      · skip
        have hpg : pg id card minc lab = .fault 0 2 card E0 0 0 E0 := by rw [HPG.out]; rw [if_pos hne]
        have HP2 : Hid _ := hpg
        have e3 : (card.toList == ([] : List UInt8)) = false := by simp [hne]
        have e4 : (card.toList != ([] : List UInt8)) = true := by rw [bne, e3]; rfl
        clear hpg hne HPG p1 p2 p3
        go_wp2_with fail
        go_region
        go_wp2
        have hS5 := (((hS.setC 0 (.string E0)).setC 1 (.int .i64 0)).setC 2 (.int .i64 0)).setC 3 (.string E0)
        have hS6 := (hS5.alloc (.cells #[.int .i64 2, .string card] 38)).alloc (.cells (fcells 0 2 card E0 0 0 E0) 33)
        have hsz : (((((wr.setCell ⟨w.heap.size + 1, 0, none⟩ (.string E0)).setCell ⟨w.heap.size + 1, 1, none⟩ (.int .i64 0)).setCell ⟨w.heap.size + 1, 2, none⟩ (.int .i64 0)).setCell ⟨w.heap.size + 1, 3, none⟩ (.string E0)).alloc (.cells #[.int .i64 2, .string card] 38)).heap.size = wr.heap.size + 1 := by simp [World.setCell]
        refine bodyPost_ret (results6 (w.heap.size + 1) 24 (gcells E0 0 0 E0) (0, 0) rfl ?_ rfl _ rfl) rfl ⟨?_, same_heap hS6.b rfl rfl rfl rfl⟩
        · exact hS6.r
        unfold PGEnds
        rw [HP2.out]
        refine ⟨_, rfl, ?_⟩
        have h := Go.heap_alloc_new (((((wr.setCell ⟨w.heap.size + 1, 0, none⟩ (.string E0)).setCell ⟨w.heap.size + 1, 1, none⟩ (.int .i64 0)).setCell ⟨w.heap.size + 1, 2, none⟩ (.int .i64 0)).setCell ⟨w.heap.size + 1, 3, none⟩ (.string E0)).alloc (.cells #[.int .i64 2, .string card] 38)) (.cells (fcells 0 2 card E0 0 0 E0) 33)
        rw [hsz] at h
        exact h
    | 1, _ =>
      by_cases hne : minc.toList = []
      · skip
        have e3 : (minc.toList == ([] : List UInt8)) = true := by simp [hne]
        have e4 : (minc.toList != ([] : List UInt8)) = false := by rw [bne, e3]; rfl
        have HNE : Hid _ := hne
        have P1 : Hid _ := p1
        have P2 : Hid _ := p2
        clear hne p1 p2 p3
        go_wp2
        have hS6 := hS.alloc (.cells #[.int .i64 3, .string minc] 38)
        go_roundw
        case rel => exact ⟨2, by omega, rfl, hS6, fun _ => P1.out (by omega), fun _ => HNE.out, fun h => absurd h (by omega)⟩
        case measure => simp [intOf]
      · skip
        have hpg : pg id card minc lab = .fault 0 3 minc E0 0 0 E0 := by rw [HPG.out]; rw [if_neg (fun h => h (p1 (by omega))), if_pos hne]
        have HP2 : Hid _ := hpg
        have e3 : (minc.toList == ([] : List UInt8)) = false := by simp [hne]
        have e4 : (minc.toList != ([] : List UInt8)) = true := by rw [bne, e3]; rfl
        clear hpg hne HPG p1 p2 p3
        go_wp2_with fail
        go_region
        go_wp2
        have hS5 := (((hS.setC 0 (.string E0)).setC 1 (.int .i64 0)).setC 2 (.int .i64 0)).setC 3 (.string E0)
        have hS6 := (hS5.alloc (.cells #[.int .i64 3, .string minc] 38)).alloc (.cells (fcells 0 3 minc E0 0 0 E0) 33)
        have hsz : (((((wr.setCell ⟨w.heap.size + 1, 0, none⟩ (.string E0)).setCell ⟨w.heap.size + 1, 1, none⟩ (.int .i64 0)).setCell ⟨w.heap.size + 1, 2, none⟩ (.int .i64 0)).setCell ⟨w.heap.size + 1, 3, none⟩ (.string E0)).alloc (.cells #[.int .i64 3, .string minc] 38)).heap.size = wr.heap.size + 1 := by simp [World.setCell]
        refine bodyPost_ret (results6 (w.heap.size + 1) 24 (gcells E0 0 0 E0) (0, 0) rfl ?_ rfl _ rfl) rfl ⟨?_, same_heap hS6.b rfl rfl rfl rfl⟩
        · exact hS6.r
        unfold PGEnds
        rw [HP2.out]
        refine ⟨_, rfl, ?_⟩
        have h := Go.heap_alloc_new (((((wr.setCell ⟨w.heap.size + 1, 0, none⟩ (.string E0)).setCell ⟨w.heap.size + 1, 1, none⟩ (.int .i64 0)).setCell ⟨w.heap.size + 1, 2, none⟩ (.int .i64 0)).setCell ⟨w.heap.size + 1, 3, none⟩ (.string E0)).alloc (.cells #[.int .i64 3, .string minc] 38)) (.cells (fcells 0 3 minc E0 0 0 E0) 33)
        rw [hsz] at h
        exact h
    | 2, _ =>
      by_cases hne : lab.toList = []
      · skip
        have e3 : (lab.toList == ([] : List UInt8)) = true := by simp [hne]
        have e4 : (lab.toList != ([] : List UInt8)) = false := by rw [bne, e3]; rfl
        have HNE : Hid _ := hne
        have P1 : Hid _ := p1
        have P2 : Hid _ := p2
        clear hne p1 p2 p3
        go_wp2
        have hS6 := hS.alloc (.cells #[.int .i64 4, .string lab] 38)
        go_roundw
        case rel => exact ⟨3, by omega, rfl, hS6, fun _ => P1.out (by omega), fun _ => P2.out (by omega), fun _ => HNE.out⟩
        case measure => simp [intOf]
      · skip
        have hpg : pg id card minc lab = .fault 0 4 lab E0 0 0 E0 := by rw [HPG.out]; rw [if_neg (fun h => h (p1 (by omega))), if_neg (fun h => h (p2 (by omega))), if_pos hne]
        have HP2 : Hid _ := hpg
        have e3 : (lab.toList == ([] : List UInt8)) = false := by simp [hne]
        have e4 : (lab.toList != ([] : List UInt8)) = true := by rw [bne, e3]; rfl
        clear hpg hne HPG p1 p2 p3
        go_wp2_with fail
        go_region
        go_wp2
        have hS5 := (((hS.setC 0 (.string E0)).setC 1 (.int .i64 0)).setC 2 (.int .i64 0)).setC 3 (.string E0)
        have hS6 := (hS5.alloc (.cells #[.int .i64 4, .string lab] 38)).alloc (.cells (fcells 0 4 lab E0 0 0 E0) 33)
        have hsz : (((((wr.setCell ⟨w.heap.size + 1, 0, none⟩ (.string E0)).setCell ⟨w.heap.size + 1, 1, none⟩ (.int .i64 0)).setCell ⟨w.heap.size + 1, 2, none⟩ (.int .i64 0)).setCell ⟨w.heap.size + 1, 3, none⟩ (.string E0)).alloc (.cells #[.int .i64 4, .string lab] 38)).heap.size = wr.heap.size + 1 := by simp [World.setCell]
        refine bodyPost_ret (results6 (w.heap.size + 1) 24 (gcells E0 0 0 E0) (0, 0) rfl ?_ rfl _ rfl) rfl ⟨?_, same_heap hS6.b rfl rfl rfl rfl⟩
        · exact hS6.r
        unfold PGEnds
        rw [HP2.out]
        refine ⟨_, rfl, ?_⟩
        have h := Go.heap_alloc_new (((((wr.setCell ⟨w.heap.size + 1, 0, none⟩ (.string E0)).setCell ⟨w.heap.size + 1, 1, none⟩ (.int .i64 0)).setCell ⟨w.heap.size + 1, 2, none⟩ (.int .i64 0)).setCell ⟨w.heap.size + 1, 3, none⟩ (.string E0)).alloc (.cells #[.int .i64 4, .string lab] 38)) (.cells (fcells 0 4 lab E0 0 0 E0) 33)
        rw [hsz] at h
        exact h
    | 3, _ =>
      have hpg : pg id card minc lab = .gang id 0 0 E0 := by rw [HPG.out, if_neg (fun h => h (p1 (by omega))), if_neg (fun h => h (p2 (by omega))), if_neg (fun h => h (p3 (by omega)))]
      have HP2 : Hid _ := hpg
      clear hpg p1 p2 p3 HPG
      go_wp2_with (first | (refine st_l hS rfl _ rfl rfl rfl ?_) | (refine st_r hS rfl _ _ rfl id 0 0 E0 rfl rfl rfl ?_))
      intro W5 hS5 _
      try go_frame
      go_wp2
      refine bodyPost_ret (results6 (w.heap.size + 1) 24 (gcells id 0 0 E0) (0, 0) rfl hS5.r rfl _ rfl) rfl ⟨?_, hS5.b⟩
      unfold PGEnds
      rw [HP2.out]
      rfl

/-- ParseGang at every text. -/
theorem parse_any (id card minc lab : ByteArray) (w : World) (hE : EV w) (h1 : card.size ≤ 281474976710656) (h2 : minc.size ≤ 281474976710656) :
    Calls Tryd.prog 6 #[.agg #[.string id, .string card, .string minc, .string lab]] w fun e w' => PGEnds (pg id card minc lab) e w' ∧ Below w.heap.size w w' := by
  by_cases hid : id.toList = []
  · exact parse_unnamed id card minc lab hid w
  · exact parse_named id card minc lab hid w hE h1 h2

end Go.Proofs.Qxb6627868aDoor
