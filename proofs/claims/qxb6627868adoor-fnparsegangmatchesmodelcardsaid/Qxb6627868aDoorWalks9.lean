/- SEAT b6627868aD, WALKS 9: parseGangModel, walked. -/
import Derived.Test.Qxb6627868aDoorWalks8
namespace Go.Proofs.Qxb6627868aDoor
open Go.ChangeShapes Go.WideShapes Go.ChangeAt Go.RowKit

set_option maxHeartbeats 1000000 in
theorem model_unnamed (id card minc lab : ByteArray) (hid : id.toList = []) (w : World) :
    Calls Tryd.prog 7 #[.string id, .string card, .string minc, .string lab] w fun e w' => ModelEnds (pg id card minc lab) e ∧ Below w.heap.size w w' := by
  have hM0 := m2_0 w
  have hidE : id = E0 := bytes_inj (by rw [← ByteArray.toList_eq, hid]; rfl)
  have e1 : (id.toList == ([] : List UInt8)) = true := by simp [hid]
  go_enter Tryd.func7, Tryd.ntmps7
  by_cases h1 : card.toList = []
  · have c1 : (card.toList == ([] : List UInt8)) = true := by simp [h1]
    have c1' : (card.toList != ([] : List UInt8)) = false := by rw [bne, c1]; rfl
    by_cases h2 : minc.toList = []
    · have c2 : (minc.toList == ([] : List UInt8)) = true := by simp [h2]
      have c2' : (minc.toList != ([] : List UInt8)) = false := by rw [bne, c2]; rfl
      by_cases h3 : lab.toList = []
      · have c3 : (lab.toList == ([] : List UInt8)) = true := by simp [h3]
        have c3' : (lab.toList != ([] : List UInt8)) = false := by rw [bne, c3]; rfl
        have hv : pg id card minc lab = .gang E0 0 0 E0 := by unfold pg; rw [if_pos hid, if_neg (fun h => h h1), if_neg (fun h => h h2), if_neg (fun h => h h3), hidE]
        have HV : Hid _ := hv
        clear hv
        clear h1 h2 h3 hid hidE
        go_wp2_with (first | (refine m2_r hM0 rfl _ _ rfl E0 0 0 E0 rfl rfl rfl ?_))
        intro W8 hM8
        try go_frame
        go_wp2_with (first | (refine m2_f hM8 rfl _ _ rfl 0 0 E0 E0 0 0 E0 rfl rfl rfl ?_))
        intro W9 hM9
        try go_frame
        go_wp2
        refine bodyPost_ret (results7 w.heap.size (gcells E0 0 0 E0) (fcells 0 0 E0 E0 0 0 E0) rfl rfl hM9.r hM9.f rfl rfl _ rfl) rfl ⟨?_, hM9.b⟩
        unfold ModelEnds
        rw [HV.out]
        rfl
      · have c3 : (lab.toList == ([] : List UInt8)) = false := by simp [h3]
        have c3' : (lab.toList != ([] : List UInt8)) = true := by rw [bne, c3]; rfl
        have hv : pg id card minc lab = .fault 0 4 lab E0 0 0 E0 := by unfold pg; rw [if_pos hid, if_neg (fun h => h h1), if_neg (fun h => h h2), if_pos h3]
        have HV : Hid _ := hv
        clear hv
        clear h1 h2 h3 hid hidE
        go_wp2_with (first | (refine m2_r hM0 rfl _ _ rfl E0 0 0 E0 rfl rfl rfl ?_))
        intro W8 hM8
        try go_frame
        go_wp2_with (first | (refine m2_f hM8 rfl _ _ rfl 0 4 lab E0 0 0 E0 rfl rfl rfl ?_))
        intro W9 hM9
        try go_frame
        go_wp2
        refine bodyPost_ret (results7 w.heap.size (gcells E0 0 0 E0) (fcells 0 4 lab E0 0 0 E0) rfl rfl hM9.r hM9.f rfl rfl _ rfl) rfl ⟨?_, hM9.b⟩
        unfold ModelEnds
        rw [HV.out]
        rfl
    · have c2 : (minc.toList == ([] : List UInt8)) = false := by simp [h2]
      have c2' : (minc.toList != ([] : List UInt8)) = true := by rw [bne, c2]; rfl
      have hv : pg id card minc lab = .fault 0 3 minc E0 0 0 E0 := by unfold pg; rw [if_pos hid, if_neg (fun h => h h1), if_pos h2]
      have HV : Hid _ := hv
      clear hv
      clear h1 h2 hid hidE
      go_wp2_with (first | (refine m2_r hM0 rfl _ _ rfl E0 0 0 E0 rfl rfl rfl ?_))
      intro W8 hM8
      try go_frame
      go_wp2_with (first | (refine m2_f hM8 rfl _ _ rfl 0 3 minc E0 0 0 E0 rfl rfl rfl ?_))
      intro W9 hM9
      try go_frame
      go_wp2
      refine bodyPost_ret (results7 w.heap.size (gcells E0 0 0 E0) (fcells 0 3 minc E0 0 0 E0) rfl rfl hM9.r hM9.f rfl rfl _ rfl) rfl ⟨?_, hM9.b⟩
      unfold ModelEnds
      rw [HV.out]
      rfl
  · have c1 : (card.toList == ([] : List UInt8)) = false := by simp [h1]
    have c1' : (card.toList != ([] : List UInt8)) = true := by rw [bne, c1]; rfl
    have hv : pg id card minc lab = .fault 0 2 card E0 0 0 E0 := by unfold pg; rw [if_pos hid, if_pos h1]
    have HV : Hid _ := hv
    clear hv
    clear h1 hid hidE
    go_wp2_with (first | (refine m2_r hM0 rfl _ _ rfl E0 0 0 E0 rfl rfl rfl ?_))
    intro W8 hM8
    try go_frame
    go_wp2_with (first | (refine m2_f hM8 rfl _ _ rfl 0 2 card E0 0 0 E0 rfl rfl rfl ?_))
    intro W9 hM9
    try go_frame
    go_wp2
    refine bodyPost_ret (results7 w.heap.size (gcells E0 0 0 E0) (fcells 0 2 card E0 0 0 E0) rfl rfl hM9.r hM9.f rfl rfl _ rfl) rfl ⟨?_, hM9.b⟩
    unfold ModelEnds
    rw [HV.out]
    rfl

end Go.Proofs.Qxb6627868aDoor
