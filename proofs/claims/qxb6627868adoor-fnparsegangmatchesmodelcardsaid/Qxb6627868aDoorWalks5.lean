/- SEAT b6627868aD, WALKS 5: the law FnParseGangMinEqualToCardinalityIsLeavingItOut. -/
import Derived.Test.Qxb6627868aDoorWalks4
namespace Go.Proofs.Qxb6627868aDoor
open Go.ChangeShapes Go.WideShapes Go.ChangeAt Go.RowKit

theorem E0_list : E0.toList = [] := by rw [ByteArray.toList_eq]; rfl
theorem ck_pos {l : List UInt8} {n : Int} (h : ck l = some (some n)) : 1 ≤ n := by
  unfold ck at h
  split at h
  · split at h
    · cases h
    · split at h
      · cases h
      · injection h with h; injection h with h; omega
  · cases h

theorem pg_same (id card lab : ByteArray) : pg id card card lab = pg id card E0 lab := by
  unfold pg
  by_cases hid : id.toList = []
  · rw [if_pos hid, if_pos hid]
    by_cases hc : card.toList = []
    · simp [hc]
    · rw [if_pos hc, if_pos hc]
  · rw [if_neg hid, if_neg hid]
    by_cases hc : card.toList = []
    · rw [if_pos hc, if_pos hc]
    · rw [if_neg hc, if_neg hc]
      rcases ck card.data.toList with _ | _ | c
      · rfl
      · rfl
      · simp only [if_neg hc, if_pos E0_list]
        rw [if_neg (Int.lt_irrefl c)]

theorem pg_cases (id card lab : ByteArray) : (∃ pb st s i c m l, pg id card E0 lab = .fault pb st s i c m l) ∨
    (id.toList = [] ∧ card.toList = [] ∧ lab.toList = [] ∧ pg id card E0 lab = .gang id 0 0 E0) ∨ (id.toList ≠ [] ∧ ∃ c, 1 ≤ c ∧ pg id card E0 lab = .gang id c c lab) := by
  unfold pg
  by_cases hid : id.toList = []
  · rw [if_pos hid]
    by_cases hc : card.toList = []
    · rw [if_neg (fun h => h hc), if_neg (fun h => h E0_list)]
      by_cases hl : lab.toList = []
      · rw [if_neg (fun h => h hl)]
        exact .inr (.inl ⟨hid, hc, hl, rfl⟩)
      · rw [if_pos hl]
        exact .inl ⟨_, _, _, _, _, _, _, rfl⟩
    · rw [if_pos hc]
      exact .inl ⟨_, _, _, _, _, _, _, rfl⟩
  · rw [if_neg hid]
    by_cases hc : card.toList = []
    · rw [if_pos hc]
      exact .inl ⟨_, _, _, _, _, _, _, rfl⟩
    · rw [if_neg hc]
      rcases hk : ck card.data.toList with _ | _ | c
      · exact .inl ⟨_, _, _, _, _, _, _, rfl⟩
      · exact .inl ⟨_, _, _, _, _, _, _, rfl⟩
      · simp only [if_pos E0_list]
        exact .inr (.inr ⟨hid, c, ck_pos hk, rfl⟩)

/-- A gang's cells, one by one. -/
theorem gang_cells {w : World} {b : Nat} {id lab : ByteArray} {c m : Int} (h : w.heap[b]? = some (.cells (gcells id c m lab) 24 (0, 0))) :
    w.cell? ⟨b, 0, none⟩ = some (.string id) ∧ w.cell? ⟨b, 1, none⟩ = some (.int .i64 c) ∧ w.cell? ⟨b, 2, none⟩ = some (.int .i64 m) ∧ w.cell? ⟨b, 3, none⟩ = some (.string lab) :=
  ⟨by rw [cell_of_row w _ _ _ 24 (0, 0) h]; rfl, by rw [cell_of_row w _ _ _ 24 (0, 0) h]; rfl, by rw [cell_of_row w _ _ _ 24 (0, 0) h]; rfl, by rw [cell_of_row w _ _ _ 24 (0, 0) h]; rfl⟩

set_option maxRecDepth 100000 in
set_option maxHeartbeats 1000000 in
theorem min_walk (id card lab : ByteArray) (w : World) (hE : EV w) :
    Calls Tryd.prog 4 #[.string id, .string card, .string lab] w fun e w' => e = .returned (.bool true) ∧ Below w.heap.size w w' := by
  go_enter Tryd.func4, Tryd.ntmps4
  go_wp2_with fail
  refine (bytes8 id card lab w).mono ?_
  rintro e w1 ⟨⟨r, rfl⟩, rfl⟩
  cases r
  case false =>
    go_wp2
    go_ret
    exact ⟨rfl, Below.refl _ _⟩
  case true =>
  by_cases s1 : (262144 : Int) < (id.size : Int)
  · go_wp2
    go_ret
    exact ⟨rfl, Below.refl _ _⟩
  by_cases s2 : (262144 : Int) < (card.size : Int)
  · go_wp2
    go_ret
    exact ⟨rfl, Below.refl _ _⟩
  by_cases s3 : (262144 : Int) < (lab.size : Int)
  · go_wp2
    go_ret
    exact ⟨rfl, Below.refl _ _⟩
  have hcs : card.size ≤ 281474976710656 := by omega
  go_wp2_with fail
  refine (parse_any id card E0 lab w1 hE hcs (by decide)).mono ?_
  rintro e w2 ⟨hp1, hb2⟩
  have hsm := pg_same id card lab
  rcases pg_cases id card lab with ⟨pb, st, s, i, c, m, l, ho⟩ | ⟨hid, hcd, hlb, ho⟩ | ⟨hid, c, hc1, ho⟩
  · rw [ho] at hp1 hsm
    obtain ⟨N, rfl, hN⟩ := hp1
    have hA : Below w2.heap.size w2 (w2.alloc (.cells (gcells E0 0 0 E0) 24)) := (Below.refl _ _).alloc (Nat.le_refl _) _
    have hgA := Go.heap_alloc_new w2 (.cells (gcells E0 0 0 E0) 24)
    have belA : Below w1.heap.size w1 (w2.alloc (.cells (gcells E0 0 0 E0) 24)) := hb2.trans (hA.mono hb2.size)
    have HSM : Hid _ := hsm
    clear ho hsm
    go_wp2_with fail
    refine (parse_any id card card lab _ (hE.below belA) hcs hcs).mono ?_
    rintro e w3 ⟨hp2, hb3⟩
    rw [HSM.out] at hp2
    obtain ⟨M, rfl, hM⟩ := hp2
    have hN3 : w3.heap[N]? = some (.cells (fcells pb st s i c m l) 33 (0, 0)) := by
      have hlt := (Array.getElem?_eq_some_iff.1 hN).1
      rw [hb3.block N (by simp; omega), hA.block N hlt]; exact hN
    have hg3 : w3.heap[w2.heap.size]? = some (.cells (gcells E0 0 0 E0) 24 (0, 0)) := by rw [hb3.block w2.heap.size (by simp)]; exact hgA
    have bel3 := belA.trans (hb3.mono belA.size)
    have hlt3 : w2.heap.size < w3.heap.size := (Array.getElem?_eq_some_iff.1 hg3).1
    obtain ⟨a0, a1, a2, a3⟩ := gang_cells hg3
    have hC : Below w3.heap.size w3 (w3.alloc (.cells (gcells E0 0 0 E0) 24)) := (Below.refl _ _).alloc (Nat.le_refl _) _
    have belC := bel3.trans (hC.mono bel3.size)
    clear hb3 hA hgA belA
    go_wp2_with fail
    refine (same_some N M pb st s i c m l _ ((hC.block N (Array.getElem?_eq_some_iff.1 hN3).1).trans hN3) ((hC.block M (Array.getElem?_eq_some_iff.1 hM).1).trans hM)).mono ?_
    rintro e w4 ⟨rfl, hb4⟩
    have hg4 : w4.heap[w2.heap.size]? = some (.cells (gcells E0 0 0 E0) 24 (0, 0)) := by rw [hb4.block w2.heap.size (by simp; omega), hC.block _ hlt3]; exact hg3
    have bel4 := belC.trans (hb4.mono belC.size)
    clear a0 a1 a2 a3
    obtain ⟨a0, a1, a2, a3⟩ := gang_cells hg4
    clear hb4 hC belC bel3 hg3 hg4
    go_wp2
    go_ret
    exact ⟨rfl, bel4⟩
  · rw [ho] at hp1 hsm
    obtain rfl : e = .returned (.tuple #[.agg (gcells id 0 0 E0), .pointer none]) := hp1
    have e1 : (id.toList == ([] : List UInt8)) = true := by simp [hid]
    have e2 : (card.toList == ([] : List UInt8)) = true := by simp [hcd]
    have e3 : (lab.toList == ([] : List UInt8)) = true := by simp [hlb]
    clear hid hcd hlb
    have hA : Below w2.heap.size w2 (w2.alloc (.cells (gcells id 0 0 E0) 24)) := (Below.refl _ _).alloc (Nat.le_refl _) _
    have hgA := Go.heap_alloc_new w2 (.cells (gcells id 0 0 E0) 24)
    have belA : Below w1.heap.size w1 (w2.alloc (.cells (gcells id 0 0 E0) 24)) := hb2.trans (hA.mono hb2.size)
    have HSM : Hid _ := hsm
    clear ho hsm
    go_wp2_with fail
    refine (parse_any id card card lab _ (hE.below belA) hcs hcs).mono ?_
    rintro e w3 ⟨hp2, hb3⟩
    rw [HSM.out] at hp2
    obtain rfl : e = .returned (.tuple #[.agg (gcells id 0 0 E0), .pointer none]) := hp2
    have hg3 : w3.heap[w2.heap.size]? = some (.cells (gcells id 0 0 E0) 24 (0, 0)) := by rw [hb3.block w2.heap.size (by simp)]; exact hgA
    have bel3 := belA.trans (hb3.mono belA.size)
    have hlt3 : w2.heap.size < w3.heap.size := (Array.getElem?_eq_some_iff.1 hg3).1
    obtain ⟨a0, a1, a2, a3⟩ := gang_cells hg3
    have hC : Below w3.heap.size w3 (w3.alloc (.cells (gcells id 0 0 E0) 24)) := (Below.refl _ _).alloc (Nat.le_refl _) _
    have belC := bel3.trans (hC.mono bel3.size)
    clear hb3 hA hgA belA
    go_wp2_with fail
    refine (same_none _).mono ?_
    rintro e w4 ⟨rfl, hb4⟩
    have hg4 : w4.heap[w2.heap.size]? = some (.cells (gcells id 0 0 E0) 24 (0, 0)) := by rw [hb4.block w2.heap.size (by simp; omega), hC.block _ hlt3]; exact hg3
    have bel4 := belC.trans (hb4.mono belC.size)
    clear a0 a1 a2 a3
    obtain ⟨a0, a1, a2, a3⟩ := gang_cells hg4
    clear hb4 hC belC bel3 hg3 hg4
    go_wp2
    go_ret
    exact ⟨rfl, bel4⟩
  · rw [ho] at hp1 hsm
    obtain rfl : e = .returned (.tuple #[.agg (gcells id c c lab), .pointer none]) := hp1
    have e1 : (id.toList == ([] : List UInt8)) = false := by simp [hid]
    clear hid
    have hA : Below w2.heap.size w2 (w2.alloc (.cells (gcells id c c lab) 24)) := (Below.refl _ _).alloc (Nat.le_refl _) _
    have hgA := Go.heap_alloc_new w2 (.cells (gcells id c c lab) 24)
    have belA : Below w1.heap.size w1 (w2.alloc (.cells (gcells id c c lab) 24)) := hb2.trans (hA.mono hb2.size)
    have HSM : Hid _ := hsm
    clear ho hsm
    go_wp2_with fail
    refine (parse_any id card card lab _ (hE.below belA) hcs hcs).mono ?_
    rintro e w3 ⟨hp2, hb3⟩
    rw [HSM.out] at hp2
    obtain rfl : e = .returned (.tuple #[.agg (gcells id c c lab), .pointer none]) := hp2
    have hg3 : w3.heap[w2.heap.size]? = some (.cells (gcells id c c lab) 24 (0, 0)) := by rw [hb3.block w2.heap.size (by simp)]; exact hgA
    have bel3 := belA.trans (hb3.mono belA.size)
    have hlt3 : w2.heap.size < w3.heap.size := (Array.getElem?_eq_some_iff.1 hg3).1
    obtain ⟨a0, a1, a2, a3⟩ := gang_cells hg3
    have hC : Below w3.heap.size w3 (w3.alloc (.cells (gcells id c c lab) 24)) := (Below.refl _ _).alloc (Nat.le_refl _) _
    have belC := bel3.trans (hC.mono bel3.size)
    clear hb3 hA hgA belA
    go_wp2_with fail
    refine (same_none _).mono ?_
    rintro e w4 ⟨rfl, hb4⟩
    have hg4 : w4.heap[w2.heap.size]? = some (.cells (gcells id c c lab) 24 (0, 0)) := by rw [hb4.block w2.heap.size (by simp; omega), hC.block _ hlt3]; exact hg3
    have bel4 := belC.trans (hb4.mono belC.size)
    clear a0 a1 a2 a3
    obtain ⟨a0, a1, a2, a3⟩ := gang_cells hg4
    clear hb4 hC belC bel3 hg3 hg4
    go_wp2
    go_ret
    exact ⟨rfl, bel4⟩

end Go.Proofs.Qxb6627868aDoor
