/- SEAT b6627868aD, WALKS 10: parseGangModel where a gang is named. -/
import Derived.Test.Qxb6627868aDoorWalks9
namespace Go.Proofs.Qxb6627868aDoor
open Go.ChangeShapes Go.WideShapes Go.ChangeAt Go.RowKit

set_option maxHeartbeats 1000000 in
theorem model_named (id card minc lab : ByteArray) (hid : ¬ id.toList = []) (w : World) (s1 : card.size ≤ 1099511627776) (s2 : minc.size ≤ 1099511627776) :
    Calls Tryd.prog 7 #[.string id, .string card, .string minc, .string lab] w fun e w' => ModelEnds (pg id card minc lab) e ∧ Below w.heap.size w w' := by
  have hM0 := m2_0 w
  have e1 : (id.toList == ([] : List UInt8)) = false := by simp [hid]
  go_enter Tryd.func7, Tryd.ntmps7
  by_cases h1 : card.toList = []
  · have c1 : (card.toList == ([] : List UInt8)) = true := by simp [h1]
    have hv : pg id card minc lab = .fault 1 2 E0 id 0 0 E0 := by unfold pg; rw [if_neg hid, if_pos h1]
    have HV : Hid _ := hv
    clear hv
    clear h1 hid
    go_wp2_with (first | (refine m2_r hM0 rfl _ _ rfl E0 0 0 E0 rfl rfl rfl ?_))
    intro W8 hM8
    try go_frame
    go_wp2_with (first | (refine m2_f hM8 rfl _ _ rfl 1 2 E0 id 0 0 E0 rfl rfl rfl ?_))
    intro W9 hM9
    try go_frame
    go_wp2
    refine bodyPost_ret (results7 w.heap.size (gcells E0 0 0 E0) (fcells 1 2 E0 id 0 0 E0) rfl rfl hM9.r hM9.f rfl rfl _ rfl) rfl ⟨?_, hM9.b⟩
    unfold ModelEnds
    rw [HV.out]
    rfl
  have c1 : (card.toList == ([] : List UInt8)) = false := by simp [h1]
  have d1 := dec_any card s1
  rcases hk : ck card.data.toList with _ | _ | c
  · have hv : pg id card minc lab = .fault 2 2 card id 0 0 E0 := by unfold pg; rw [if_neg hid, if_neg h1, hk]
    rw [hk] at d1
    have HV0 : Hid _ := hv
    clear hv hk h1 hid
    go_wp2_with fail
    refine (d1 _).mono ?_
    rintro e _ ⟨rfl, rfl⟩
    unfold DV
    go_wp2_with fail
    refine (fault_whole 2 card id E0 0 0 _).mono ?_
    rintro e w1 ⟨rfl, hb1⟩
    have hM1 := hM0.below hb1
    have hv := HV0.out
    clear HV0 hb1
    have HV : Hid _ := hv
    clear hv
    go_wp2_with (first | (refine m2_r hM1 rfl _ _ rfl E0 0 0 E0 rfl rfl rfl ?_))
    intro W8 hM8
    try go_frame
    go_wp2_with (first | (refine m2_f hM8 rfl _ _ rfl 2 2 card id 0 0 E0 rfl rfl rfl ?_))
    intro W9 hM9
    try go_frame
    go_wp2
    refine bodyPost_ret (results7 w.heap.size (gcells E0 0 0 E0) (fcells 2 2 card id 0 0 E0) rfl rfl hM9.r hM9.f rfl rfl _ rfl) rfl ⟨?_, hM9.b⟩
    unfold ModelEnds
    rw [HV.out]
    rfl
  · have hv : pg id card minc lab = .fault 3 2 card id 0 0 E0 := by unfold pg; rw [if_neg hid, if_neg h1, hk]
    rw [hk] at d1
    have HV0 : Hid _ := hv
    clear hv hk h1 hid
    go_wp2_with fail
    refine (d1 _).mono ?_
    rintro e _ ⟨rfl, rfl⟩
    unfold DV
    go_wp2_with fail
    refine (fault_zero 2 card id E0 0 0 _).mono ?_
    rintro e w1 ⟨rfl, hb1⟩
    have hM1 := hM0.below hb1
    have hv := HV0.out
    clear HV0 hb1
    have HV : Hid _ := hv
    clear hv
    go_wp2_with (first | (refine m2_r hM1 rfl _ _ rfl E0 0 0 E0 rfl rfl rfl ?_))
    intro W8 hM8
    try go_frame
    go_wp2_with (first | (refine m2_f hM8 rfl _ _ rfl 3 2 card id 0 0 E0 rfl rfl rfl ?_))
    intro W9 hM9
    try go_frame
    go_wp2
    refine bodyPost_ret (results7 w.heap.size (gcells E0 0 0 E0) (fcells 3 2 card id 0 0 E0) rfl rfl hM9.r hM9.f rfl rfl _ rfl) rfl ⟨?_, hM9.b⟩
    unfold ModelEnds
    rw [HV.out]
    rfl
  · rw [hk] at d1
    by_cases h2 : minc.toList = []
    · have c2 : (minc.toList == ([] : List UInt8)) = true := by simp [h2]
      have c2' : (minc.toList != ([] : List UInt8)) = false := by rw [bne, c2]; rfl
      have hv : pg id card minc lab = .gang id c c lab := by unfold pg; rw [if_neg hid, if_neg h1, hk]; simp only [if_pos h2]
      have HV0 : Hid _ := hv
      clear hv hk h1 h2 hid
      go_wp2_with fail
      refine (d1 _).mono ?_
      rintro e _ ⟨rfl, rfl⟩
      unfold DV
      have hv := HV0.out
      clear HV0
      have HV : Hid _ := hv
      clear hv
      go_wp2_with (first | (refine m2_r hM0 rfl _ _ rfl id c c lab rfl rfl rfl ?_))
      intro W8 hM8
      try go_frame
      go_wp2_with (first | (refine m2_f hM8 rfl _ _ rfl 0 0 E0 E0 0 0 E0 rfl rfl rfl ?_))
      intro W9 hM9
      try go_frame
      go_wp2
      refine bodyPost_ret (results7 w.heap.size (gcells id c c lab) (fcells 0 0 E0 E0 0 0 E0) rfl rfl hM9.r hM9.f rfl rfl _ rfl) rfl ⟨?_, hM9.b⟩
      unfold ModelEnds
      rw [HV.out]
      rfl
    have c2 : (minc.toList == ([] : List UInt8)) = false := by simp [h2]
    have c2' : (minc.toList != ([] : List UInt8)) = true := by rw [bne, c2]; rfl
    have d2 := dec_any minc s2
    rcases hk2 : ck minc.data.toList with _ | _ | m
    · have hv : pg id card minc lab = .fault 2 3 minc id c 0 E0 := by unfold pg; rw [if_neg hid, if_neg h1, hk]; simp only [if_neg h2, hk2]
      rw [hk2] at d2
      have HV0 : Hid _ := hv
      clear hv hk hk2 h1 h2 hid
      go_wp2_with fail
      refine (d1 _).mono ?_
      rintro e _ ⟨rfl, rfl⟩
      unfold DV
      go_wp2_with fail
      refine (d2 _).mono ?_
      rintro e _ ⟨rfl, rfl⟩
      unfold DV
      go_wp2_with fail
      refine (fault_whole 3 minc id E0 c 0 _).mono ?_
      rintro e w1 ⟨rfl, hb1⟩
      have hM1 := hM0.below hb1
      have hv := HV0.out
      clear HV0 hb1
      have HV : Hid _ := hv
      clear hv
      go_wp2_with (first | (refine m2_r hM1 rfl _ _ rfl E0 0 0 E0 rfl rfl rfl ?_))
      intro W8 hM8
      try go_frame
      go_wp2_with (first | (refine m2_f hM8 rfl _ _ rfl 2 3 minc id c 0 E0 rfl rfl rfl ?_))
      intro W9 hM9
      try go_frame
      go_wp2
      refine bodyPost_ret (results7 w.heap.size (gcells E0 0 0 E0) (fcells 2 3 minc id c 0 E0) rfl rfl hM9.r hM9.f rfl rfl _ rfl) rfl ⟨?_, hM9.b⟩
      unfold ModelEnds
      rw [HV.out]
      rfl
    · have hv : pg id card minc lab = .fault 3 3 minc id c 0 E0 := by unfold pg; rw [if_neg hid, if_neg h1, hk]; simp only [if_neg h2, hk2]
      rw [hk2] at d2
      have HV0 : Hid _ := hv
      clear hv hk hk2 h1 h2 hid
      go_wp2_with fail
      refine (d1 _).mono ?_
      rintro e _ ⟨rfl, rfl⟩
      unfold DV
      go_wp2_with fail
      refine (d2 _).mono ?_
      rintro e _ ⟨rfl, rfl⟩
      unfold DV
      go_wp2_with fail
      refine (fault_zero 3 minc id E0 c 0 _).mono ?_
      rintro e w1 ⟨rfl, hb1⟩
      have hM1 := hM0.below hb1
      have hv := HV0.out
      clear HV0 hb1
      have HV : Hid _ := hv
      clear hv
      go_wp2_with (first | (refine m2_r hM1 rfl _ _ rfl E0 0 0 E0 rfl rfl rfl ?_))
      intro W8 hM8
      try go_frame
      go_wp2_with (first | (refine m2_f hM8 rfl _ _ rfl 3 3 minc id c 0 E0 rfl rfl rfl ?_))
      intro W9 hM9
      try go_frame
      go_wp2
      refine bodyPost_ret (results7 w.heap.size (gcells E0 0 0 E0) (fcells 3 3 minc id c 0 E0) rfl rfl hM9.r hM9.f rfl rfl _ rfl) rfl ⟨?_, hM9.b⟩
      unfold ModelEnds
      rw [HV.out]
      rfl
    · rw [hk2] at d2
      by_cases hcm : c < m
      · have hv : pg id card minc lab = .fault 4 3 minc id c m E0 := by unfold pg; rw [if_neg hid, if_neg h1, hk]; simp only [if_neg h2, hk2, if_pos hcm]
        have HV0 : Hid _ := hv
        clear hv hk hk2 h1 h2 hid
        go_wp2_with fail
        refine (d1 _).mono ?_
        rintro e _ ⟨rfl, rfl⟩
        unfold DV
        go_wp2_with fail
        refine (d2 _).mono ?_
        rintro e _ ⟨rfl, rfl⟩
        unfold DV
        have hv := HV0.out
        clear HV0
        have HV : Hid _ := hv
        clear hv
        go_wp2_with (first | (refine m2_r hM0 rfl _ _ rfl E0 0 0 E0 rfl rfl rfl ?_))
        intro W8 hM8
        try go_frame
        go_wp2_with (first | (refine m2_f hM8 rfl _ _ rfl 4 3 minc id c m E0 rfl rfl rfl ?_))
        intro W9 hM9
        try go_frame
        go_wp2
        refine bodyPost_ret (results7 w.heap.size (gcells E0 0 0 E0) (fcells 4 3 minc id c m E0) rfl rfl hM9.r hM9.f rfl rfl _ rfl) rfl ⟨?_, hM9.b⟩
        unfold ModelEnds
        rw [HV.out]
        rfl
      · have hv : pg id card minc lab = .gang id c m lab := by unfold pg; rw [if_neg hid, if_neg h1, hk]; simp only [if_neg h2, hk2, if_neg hcm]
        have HV0 : Hid _ := hv
        clear hv hk hk2 h1 h2 hid
        go_wp2_with fail
        refine (d1 _).mono ?_
        rintro e _ ⟨rfl, rfl⟩
        unfold DV
        go_wp2_with fail
        refine (d2 _).mono ?_
        rintro e _ ⟨rfl, rfl⟩
        unfold DV
        have hv := HV0.out
        clear HV0
        have HV : Hid _ := hv
        clear hv
        go_wp2_with (first | (refine m2_r hM0 rfl _ _ rfl id c m lab rfl rfl rfl ?_))
        intro W8 hM8
        try go_frame
        go_wp2_with (first | (refine m2_f hM8 rfl _ _ rfl 0 0 E0 E0 0 0 E0 rfl rfl rfl ?_))
        intro W9 hM9
        try go_frame
        go_wp2
        refine bodyPost_ret (results7 w.heap.size (gcells id c m lab) (fcells 0 0 E0 E0 0 0 E0) rfl rfl hM9.r hM9.f rfl rfl _ rfl) rfl ⟨?_, hM9.b⟩
        unfold ModelEnds
        rw [HV.out]
        rfl

theorem model_any (id card minc lab : ByteArray) (w : World) (s1 : card.size ≤ 1099511627776) (s2 : minc.size ≤ 1099511627776) :
    Calls Tryd.prog 7 #[.string id, .string card, .string minc, .string lab] w fun e w' => ModelEnds (pg id card minc lab) e ∧ Below w.heap.size w w' := by
  by_cases hid : id.toList = []
  · exact model_unnamed id card minc lab hid w
  · exact model_named id card minc lab hid w s1 s2

end Go.Proofs.Qxb6627868aDoor
