/- SEAT b6627868aD, WALKS 11: the law FnParseGangMatchesModel. -/
import Derived.Test.Qxb6627868aDoorWalks10
import Derived.Test.Qxb6627868aDoorWalks5
namespace Go.Proofs.Qxb6627868aDoor
open Go.ChangeShapes Go.WideShapes Go.ChangeAt Go.RowKit

set_option maxHeartbeats 1000000 in
theorem bytes5 (a b c d : ByteArray) (w : World) : Calls Tryd.prog 5 #[.string a, .string b, .string c, .string d] w fun e w' => RetBool e ∧ w' = w := by
  go_enter Tryd.func5, Tryd.ntmps5
  go_wp2
  all_goals go_ret
  all_goals exact ⟨RetBool.mk _, rfl⟩

/-- A fault's cells, one by one. -/
theorem fault_cells {w : World} {N : Nat} {pb st : Int} {s id : ByteArray} {c m : Int} {lab : ByteArray} (h : w.heap[N]? = some (.cells (fcells pb st s id c m lab) 33 (0, 0))) :
    w.cell? ⟨N, 0, none⟩ = some (.int .i64 pb) ∧ w.cell? ⟨N, 1, none⟩ = some (.int .i64 st) ∧ w.cell? ⟨N, 2, none⟩ = some (.string s) ∧ w.cell? ⟨N, 3, none⟩ = some (.string id) ∧ w.cell? ⟨N, 4, none⟩ = some (.int .i64 c) ∧ w.cell? ⟨N, 5, none⟩ = some (.int .i64 m) ∧ w.cell? ⟨N, 6, none⟩ = some (.string lab) :=
  ⟨by rw [cell_of_row w _ _ _ 33 (0, 0) h]; rfl, by rw [cell_of_row w _ _ _ 33 (0, 0) h]; rfl, by rw [cell_of_row w _ _ _ 33 (0, 0) h]; rfl, by rw [cell_of_row w _ _ _ 33 (0, 0) h]; rfl, by rw [cell_of_row w _ _ _ 33 (0, 0) h]; rfl, by rw [cell_of_row w _ _ _ 33 (0, 0) h]; rfl, by rw [cell_of_row w _ _ _ 33 (0, 0) h]; rfl⟩

set_option maxRecDepth 100000 in
set_option maxHeartbeats 1000000 in
theorem match_walk (id card minc lab : ByteArray) (w : World) (hE : EV w) :
    Calls Tryd.prog 3 #[.string id, .string card, .string minc, .string lab] w fun e w' => e = .returned (.bool true) ∧ Below w.heap.size w w' := by
  go_enter Tryd.func3, Tryd.ntmps3
  go_wp2_with fail
  refine (bytes5 id card minc lab w).mono ?_
  rintro e w1 ⟨⟨r, rfl⟩, rfl⟩
  cases r
  case false =>
    go_wp2
    go_ret
    exact ⟨rfl, Below.refl _ _⟩
  case true =>
  by_cases s1 : (262144 : Int) < (id.size : Int)
  · go_wp2
    go_ret
    exact ⟨rfl, Below.refl _ _⟩
  by_cases s2 : (262144 : Int) < (card.size : Int)
  · go_wp2
    go_ret
    exact ⟨rfl, Below.refl _ _⟩
  by_cases s3 : (262144 : Int) < (minc.size : Int)
  · go_wp2
    go_ret
    exact ⟨rfl, Below.refl _ _⟩
  by_cases s4 : (262144 : Int) < (lab.size : Int)
  · go_wp2
    go_ret
    exact ⟨rfl, Below.refl _ _⟩
  have HM := fun w => model_any id card minc lab w (by omega) (by omega)
  have HP := parse_any id card minc lab w1 hE (by omega) (by omega)
  go_wp2_with fail
  refine HP.mono ?_
  rintro e w2 ⟨hp1, hb2⟩
  clear HP
  rcases ho : pg id card minc lab with ⟨i, c, m, l⟩ | ⟨pb, st, s, i, c, m, l⟩
  · rw [ho] at hp1 HM
    obtain rfl : e = .returned (.tuple #[.agg (gcells i c m l), .pointer none]) := hp1
    have hA : Below w2.heap.size w2 (w2.alloc (.cells (gcells i c m l) 24)) := (Below.refl _ _).alloc (Nat.le_refl _) _
    have hgA := Go.heap_alloc_new w2 (.cells (gcells i c m l) 24)
    have belA : Below w1.heap.size w1 (w2.alloc (.cells (gcells i c m l) 24)) := hb2.trans (hA.mono hb2.size)
    clear ho
    go_wp2_with fail
    refine (HM _).mono ?_
    rintro e w3 ⟨hm, hb3⟩
    obtain rfl : e = .returned (.tuple #[.agg (gcells i c m l), .bool false, .agg (fcells 0 0 E0 E0 0 0 E0)]) := hm
    have hg3 : w3.heap[w2.heap.size]? = some (.cells (gcells i c m l) 24 (0, 0)) := by rw [hb3.block w2.heap.size (by simp)]; exact hgA
    have bel3 := belA.trans (hb3.mono belA.size)
    have hlt3 : w2.heap.size < w3.heap.size := (Array.getElem?_eq_some_iff.1 hg3).1
    clear hb3 hA hgA belA HM
    go_wp2_with (first | (refine m2_r (m2_0 w3) rfl _ _ rfl i c m l rfl rfl rfl ?_))
    intro W8 hM8
    try go_frame
    go_wp2_with (first | (refine m2_f hM8 rfl _ _ rfl 0 0 E0 E0 0 0 E0 rfl rfl rfl ?_))
    intro W9 hM9
    try go_frame
    have hg9 : W9.heap[w2.heap.size]? = some (.cells (gcells i c m l) 24 (0, 0)) := (hM9.b.block _ hlt3).trans hg3
    have bel9 := bel3.trans (hM9.b.mono bel3.size)
    obtain ⟨a0, a1, a2, a3⟩ := gang_cells hg9
    obtain ⟨b0, b1, b2, b3⟩ := gang_cells hM9.r
    clear hM9 hM8 hg9 hg3 bel3
    go_wp2
    go_ret
    exact ⟨rfl, bel9⟩
  · rw [ho] at hp1 HM
    obtain ⟨N, rfl, hN⟩ := hp1
    have hA : Below w2.heap.size w2 (w2.alloc (.cells (gcells E0 0 0 E0) 24)) := (Below.refl _ _).alloc (Nat.le_refl _) _
    have hgA := Go.heap_alloc_new w2 (.cells (gcells E0 0 0 E0) 24)
    have belA : Below w1.heap.size w1 (w2.alloc (.cells (gcells E0 0 0 E0) 24)) := hb2.trans (hA.mono hb2.size)
    clear ho
    go_wp2_with fail
    refine (HM _).mono ?_
    rintro e w3 ⟨hm, hb3⟩
    obtain rfl : e = .returned (.tuple #[.agg (gcells E0 0 0 E0), .bool true, .agg (fcells pb st s i c m l)]) := hm
    have hg3 : w3.heap[w2.heap.size]? = some (.cells (gcells E0 0 0 E0) 24 (0, 0)) := by rw [hb3.block w2.heap.size (by simp)]; exact hgA
    have hN3 : w3.heap[N]? = some (.cells (fcells pb st s i c m l) 33 (0, 0)) := by
      have hlt := (Array.getElem?_eq_some_iff.1 hN).1
      rw [hb3.block N (by simp; omega), hA.block N hlt]; exact hN
    have bel3 := belA.trans (hb3.mono belA.size)
    have hlt3 : w2.heap.size < w3.heap.size := (Array.getElem?_eq_some_iff.1 hg3).1
    have hltN : N < w3.heap.size := (Array.getElem?_eq_some_iff.1 hN3).1
    clear hb3 hA hgA belA HM hN
    go_wp2_with (first | (refine m2_r (m2_0 w3) rfl _ _ rfl E0 0 0 E0 rfl rfl rfl ?_))
    intro W8 hM8
    try go_frame
    go_wp2_with (first | (refine m2_f hM8 rfl _ _ rfl pb st s i c m l rfl rfl rfl ?_))
    intro W9 hM9
    try go_frame
    have hg9 : W9.heap[w2.heap.size]? = some (.cells (gcells E0 0 0 E0) 24 (0, 0)) := (hM9.b.block _ hlt3).trans hg3
    have hN9 : W9.heap[N]? = some (.cells (fcells pb st s i c m l) 33 (0, 0)) := (hM9.b.block _ hltN).trans hN3
    have bel9 := bel3.trans (hM9.b.mono bel3.size)
    obtain ⟨a0, a1, a2, a3⟩ := gang_cells hg9
    obtain ⟨n0, n1, n2, n3, n4, n5, n6⟩ := fault_cells hN9
    obtain ⟨m0, m1, m2, m3, m4, m5, m6⟩ := fault_cells hM9.f
    clear hM9 hM8 hg9 hg3 hN3 hN9 bel3
    go_wp2_with fail
    go_quiet (fail)
    go_wp2
    go_ret
    exact ⟨rfl, same_heap bel9 rfl rfl rfl rfl⟩

end Go.Proofs.Qxb6627868aDoor
