/- WALKS OF SEAT b6627747a, 9: zzBuild. -/
import Derived.Test.Qxb6627747aWalks8
namespace Go.Proofs.Qxb6627747a
open Go.ChangeShapes Go.WideShapes Go.ChangeAt Go.RowKit
open Go.Maps (Keyed)

theorem wpList_makeMap6 (w : World) {ops : Array Oper} {rest : List Oper} {o : Oper} {a : Act} {Q : Exit → Act → World → Prop} (hg : o.guard = none) (hop : o.op = Op.makeMap 22 (some (.const (.int .i64 6))))
    (hK : wpList Try.prog ops Q rest (a.put o.dst (.map (some w.heap.size))) (w.alloc (.map #[] 0))) :
    wpList Try.prog ops Q (o :: rest) a w := by
  refine wpList_plain hg fun K hK' => ?_
  have hrun : (Instr.makeMap 22 (some (.int .i64 6))).run Try.prog w = .ok (.map (some w.heap.size)) (w.alloc (.map #[] 0)) := by
    simp only [Instr.makeMap, Sem.run_bind, run_underlying Try.underlying22, Result.andThen_ok]
    rfl
  unfold Oper.wp
  simp only [execOp, hop, Option.map_some, BigFrame.eval_const, Sem.run_bind, hrun, Result.andThen_ok, Sem.run_pure]
  exact hK' _ _ hK

theorem rangeAt_grown {w w' : World} {r b o : Nat} {cs : List Value} (h : w.rangeAt b o cs) (hg : w.grownBy w' (some r)) (hr : ∃ es c, w.heap[r]? = some (.map es c)) : w'.rangeAt b o cs := fun j v hj => by
  have h1 := h j v hj
  have hne : b ≠ r := fun e => by
    obtain ⟨es, c, hm⟩ := hr
    subst e
    simp [World.cell?, hm] at h1
  rw [cell_grown hg (block_lt_of_cell h1) hne]
  exact h1

theorem sliceAt_grown {w w' : World} {r : Nat} {v : Value} {vals : List (List Int)} (h : SliceAt w v vals) (hg : w.grownBy w' (some r)) (hr : ∃ es c, w.heap[r]? = some (.map es c)) : SliceAt w' v vals := by
  obtain ⟨a, cap, hv, hmax, h48, hc⟩ := h
  refine ⟨a, cap, hv, hmax, h48, fun h0 => ?_⟩
  obtain ⟨b, off, ha, hx⟩ := hc h0
  exact ⟨b, off, ha, fun j x hj => rangeAt_grown (hx j x hj) hg hr⟩

theorem ownsMap_isMap {w : World} {bm n : Nat} {D : DataW Value} (h : w.ownsMap Try.prog 3 tok bm n D) : ∃ es c, w.heap[bm]? = some (.map es c) := by
  obtain ⟨es, clock, hb, _⟩ := h
  exact ⟨es, clock, hb⟩

/-- A map that the law has built: every key is a register's number, and its slice is told by V. -/
def Built (wr : World) (bm n : Nat) (D : DataW Value) (V : Int → List (List Int)) : Prop :=
  wr.ownsMap Try.prog 3 tok bm n D ∧ (∀ k : Int, Maps.has D (.int .i64 k) = true → 0 ≤ k ∧ k < 5) ∧ ∀ k v, D.atKey (.int .i64 k) .nil = .held v → SliceAt wr v (V k)

theorem Built.below {w w' : World} {bm n : Nat} {D : DataW Value} {V : Int → List (List Int)} (h : Built w bm n D V) (hb : Below w.heap.size w w') : Built w' bm n D V :=
  ⟨ownsMap_below h.1 hb h.1.lt, h.2.1, fun k v hk => sliceAt_below (h.2.2 k v hk) hb⟩

/-- A store at key k of a slice. -/
theorem put_slice {w w' : World} {bm n : Nat} {D : DataW Value} {V V' : Int → List (List Int)} (hown : w.ownsMap Try.prog 3 tok bm n D) (hV : ∀ k v, D.atKey (.int .i64 k) .nil = .held v → SliceAt w v (V k)) {key : Int} {sl : Value} (hg : w.grownBy w' (some bm))
    (hsl : SliceAt w sl (V' key)) (he : ∀ k, k ≠ key → V' k = V k) : ∀ k v, (D.put (.int .i64 key) (.held sl)).atKey (.int .i64 k) .nil = .held v → SliceAt w' v (V' k) := by
  intro k v hk
  refine sliceAt_grown ?_ hg (ownsMap_isMap hown)
  by_cases e : k = key
  · subst e
    rw [Maps.atKey_put_same (k := .int .i64 k) ((hown.tidy law3).isMap) trivial] at hk
    cases hk
    exact hsl
  · rw [Maps.atKey_put_other (by simpa using e)] at hk
    rw [he k e]
    exact hV k v hk

theorem put_has {D : DataW Value} (hD : Maps.IsMap D) {key : Int} {d : DataW Value} (k : Int) : Maps.has (D.put (.int .i64 key) d) (.int .i64 k) = true ↔ (k = key ∨ Maps.has D (.int .i64 k) = true) := by
  by_cases e : k = key
  · subst e
    rw [Maps.has_put_same (k := .int .i64 k) hD trivial]
    simp
  · rw [Maps.has_put_other (by simpa using e)]
    simp [e]

theorem tok_slice {a : Option Addr} {l c : Nat} : tok (.slice a l c) = some (.held (.slice a l c), []) := rfl

/-- What zzBuild's loop knows. -/
def Mid8 (w wr : World) (m rt : List Int) (k : Nat) (V : Int → List (List Int)) : Prop :=
  Below w.heap.size w wr ∧ wr.rangeAt w.heap.size 0 (bs m) ∧ wr.rangeAt (w.heap.size + 1) 0 (bs rt) ∧ ∃ D, Built wr (w.heap.size + 1 + 1) k D V

set_option maxHeartbeats 2000000 in
theorem build_any (mask : Int) (m rt : List Int) (v : Value) (vals : List (List Int)) (p : Nat) (w : World) (hmk : 0 ≤ mask ∧ mask ≤ 255) (hm : m.length = 48) (hrt : rt.length = 192) (hv : SliceAt w v vals) (hp : p ≤ vals.length) (hmax : vals.length ≤ 4096) :
    Calls Try.prog 8 #[.int .u8 mask, .agg (bs m).toArray, .agg (bs rt).toArray, v, .int .i64 p] w fun e w' => ∃ bm D, e = .returned (.map (some bm)) ∧ w.heap.size ≤ bm ∧ Built w' bm 5 D (fun k => ins vals p (regOf m rt k.toNat)) ∧ Below w.heap.size w w' := by
  have hmid0 : Mid8 w (((w.alloc (.cells (bs m).toArray 23)).alloc (.cells (bs rt).toArray 24)).alloc (.map #[] 0)) m rt 0 (fun k => ins vals p (regOf m rt k.toNat)) := by
    refine ⟨(((Below.refl _ _).alloc (Nat.le_refl _) _).alloc (by rw [size_alloc]; omega) _).alloc (by rw [size_alloc, size_alloc]; omega) _, World.rangeAt_alloc (World.rangeAt_alloc (rangeAt_new w (bs m) 23) _) _, ?_, .map [], ?_, fun k h => (by cases h), fun k v h => (by cases h)⟩
    · have h := rangeAt_new (w.alloc (.cells (bs m).toArray 23)) (bs rt) 24
      rw [size_alloc] at h
      exact World.rangeAt_alloc h _
    · have h := World.ownsMap_made ((w.alloc (.cells (bs m).toArray 23)).alloc (.cells (bs rt).toArray 24)) Try.prog 3 tok
      rwa [size_alloc, size_alloc] at h
  obtain ⟨m0, m1⟩ := hmk
  go_enter Try.func8, Try.ntmps8
  go_wp2_with (refine wpList_makeMap6 _ rfl rfl ?_)
  generalize (((w.alloc (.cells (bs m).toArray 23)).alloc (.cells (bs rt).toArray 24)).alloc (.map #[] 0)) = W0 at hmid0 ⊢
  go_loopw [12] (fun i wr => ∃ k : Nat, k ≤ 5 ∧ i = .int .i64 k ∧ Mid8 w wr m rt k (fun k => ins vals p (regOf m rt k.toNat))) (fun i _ => 5 - (intOf i).toNat)
  case atStart => exact ⟨0, by omega, rfl, hmid0⟩
  case round =>
    obtain ⟨k, hk, rfl, hmid⟩ := hrel
    clear hmid0
    by_cases hlt : k < 5
    · have hlt' : (k : Int) < 5 := by omega
      go_wp2_with (first | (refine wpList_load_mid rfl 23 _ rfl w.heap.size 0 rfl (bs m) _ hmid.2.1 Try.underlying23 rfl (info23l _ hm) ?_) | (refine wpList_load_mid rfl 24 _ rfl (w.heap.size + 1) 0 rfl (bs rt) _ hmid.2.2.1 Try.underlying24 rfl (info24l _ hrt) ?_))
      · refine (register_any k m rt _ hlt hm hrt).mono ?_
        rintro e w1 ⟨rfl, hb1⟩
        go_wp2_with fail
        have hv1 : SliceAt w1 v vals := sliceAt_below (sliceAt_below hv hmid.1) hb1
        refine (insert_any v vals p (regOf m rt k) _ hv1 (regOf_length m rt k hm hrt hlt) hp hmax).mono ?_
        rintro e w2 ⟨a, l, c, rfl, hs2, hb2⟩
        obtain ⟨hbw, hbx, hbr, D, hB⟩ := hmid
        have hB2 := (hB.below hb1).below hb2
        have hbw2 : Below w.heap.size w w2 := (hbw.trans (hb1.mono hbw.size)).trans (hb2.mono (Nat.le_trans hbw.size hb1.size))
        have hbx2 : w2.rangeAt w.heap.size 0 (bs m) := rangeAt_below (rangeAt_below hbx hb1 (rangeAt_lt hbx (by rw [bs_length]; omega))) hb2 (Nat.lt_of_lt_of_le (rangeAt_lt hbx (by rw [bs_length]; omega)) hb1.size)
        have hbr2 : w2.rangeAt (w.heap.size + 1) 0 (bs rt) := rangeAt_below (rangeAt_below hbr hb1 (rangeAt_lt hbr (by rw [bs_length]; omega))) hb2 (Nat.lt_of_lt_of_le (rangeAt_lt hbr (by rw [bs_length]; omega)) hb1.size)
        go_wp2_with (at_mapUpdate; refine wpList_mapUpdate_own _ rfl _ _ _ 22 rfl 3 25 law3 Try.underlying22 tok (w.heap.size + 1 + 1) k D rfl hB2.1 (by unfold maxLen; omega) _ _ _ rfl rfl (Maps.keyOf_int_mk Try.underlying3 (WalkArith.wf_i64 (by omega))) _ [] tok_slice ?_)
        intro w3 hown3 hg3
        have hmap := ownsMap_isMap hB2.1
        have hmid3 : Mid8 w w3 m rt (k + 1) (fun k => ins vals p (regOf m rt k.toNat)) := by
          refine ⟨below_grown hbw2 hg3 hbw2.size (by omega), rangeAt_grown hbx2 hg3 hmap, rangeAt_grown hbr2 hg3 hmap, _, hown3, fun q hq => ?_, put_slice hB2.1 hB2.2.2 hg3 (by simpa using hs2) (fun _ _ => rfl)⟩
          rcases (put_has ((hB2.1.tidy law3).isMap) q).1 hq with rfl | h
          · omega
          · exact hB2.2.1 q h
        try go_frame
        go_wp2
        go_roundw
        case rel => exact ⟨k + 1, by omega, by go_num, hmid3⟩
        case measure => simp [intOf]; omega
      · go_roundw
        case rel => exact ⟨k + 1, by omega, by go_num, hmid.1, hmid.2.1, hmid.2.2.1, let ⟨D, h⟩ := hmid.2.2.2; ⟨D, h.1.mono (Nat.le_succ _), h.2⟩⟩
        case measure => simp [intOf]; omega
    · have hk5 : k = 5 := by omega
      subst hk5
      go_wp2
      go_ret
      obtain ⟨D, hB⟩ := hmid.2.2.2
      exact ⟨_, D, rfl, by omega, hB, hmid.1⟩

end Go.Proofs.Qxb6627747a
