/- SEAT b6627868aD, WALKS 2: ParseGang. -/
import Derived.Test.Qxb6627868aDoorWalks1
import Derived.Laws.ResultCell
namespace Go.Proofs.Qxb6627868aDoor
open Go.ChangeShapes Go.WideShapes Go.ChangeAt Go.RowKit

abbrev E0 : ByteArray := ByteArray.empty
/-- A gang's cells. -/
abbrev gcells (id : ByteArray) (c m : Int) (lab : ByteArray) : Array Value := #[.string id, .int .i64 c, .int .i64 m, .string lab]

/-- A gang, or a fault. -/
abbrev Out := Sum (ByteArray × Int × Int × ByteArray) (Int × Int × ByteArray × ByteArray × Int × Int × ByteArray)
abbrev Out.gang (id : ByteArray) (c m : Int) (lab : ByteArray) : Out := Sum.inl (id, c, m, lab)
abbrev Out.fault (pb st : Int) (s id : ByteArray) (c m : Int) (lab : ByteArray) : Out := Sum.inr (pb, st, s, id, c, m, lab)

/-- What ParseGang answers. -/
def pg (id card minc lab : ByteArray) : Out :=
  if id.toList = [] then
    if card.toList ≠ [] then .fault 0 2 card E0 0 0 E0
    else if minc.toList ≠ [] then .fault 0 3 minc E0 0 0 E0
    else if lab.toList ≠ [] then .fault 0 4 lab E0 0 0 E0
    else .gang id 0 0 E0
  else if card.toList = [] then .fault 1 2 E0 id 0 0 E0
  else match ck card.data.toList with
    | none => .fault 2 2 card id 0 0 E0
    | some none => .fault 3 2 card id 0 0 E0
    | some (some c) =>
      if minc.toList = [] then .gang id c c lab
      else match ck minc.data.toList with
        | none => .fault 2 3 minc id c 0 E0
        | some none => .fault 3 3 minc id c 0 E0
        | some (some m) => if c < m then .fault 4 3 minc id c m E0 else .gang id c m lab

def PGEnds (o : Out) (e : Ending) (w' : World) : Prop := match o with
  | .inl (id, c, m, lab) => e = .returned (.tuple #[.agg (gcells id c m lab), .pointer none])
  | .inr (pb, st, s, id, c, m, lab) => ∃ N, e = .returned (.tuple #[.agg (gcells E0 0 0 E0), .pointer (some ⟨N, 0, none⟩)]) ∧ w'.heap[N]? = some (.cells (fcells pb st s id c m lab) 33 (0, 0))

theorem size24 : (Tryd.prog.info? 24).map (·.size) = some 4 := by kernel_rfl

theorem gall (id : ByteArray) (c m : Int) (lab : ByteArray) : (gcells id c m lab).all (·.oneCell') = true := by kernel_rfl

theorem results6 {tmps : Array Value} {w : World} (g : Nat) (t : TypeId) (cs : Array Value) (fr : Nat × Nat) (hp : tmps.getD 2 undef = .pointer (some ⟨g, 0, none⟩)) (hg : w.heap[g]? = some (.cells cs t fr)) (hi : cs.size = 4) (u : Value) (hu : tmps.getD 3 undef = u) :
    (results Tryd.f6 tmps).run Tryd.prog w = .ok (.tuple #[.agg cs, u]) w := by
  rw [results_cell_tmp (p := 2) (u := 3) (ty := 24) rfl, hp, hu]
  have hl := run_loadVar_row w g t 24 cs fr _ hg Tryd.underlying24 rfl (by rw [size24, hi])
  simp [asAddr, hl, Result.andThen]

/-- The call's three variables, as they lie: the settings, the result's gang, g. -/
structure St (w W : World) (S R G : Array Value) : Prop where
  s : W.heap[w.heap.size]? = some (.cells S 29 (0, 0))
  r : W.heap[w.heap.size + 1]? = some (.cells R 24 (0, 0))
  g : W.heap[w.heap.size + 1 + 1]? = some (.cells G 24 (0, 0))
  b : Below w.heap.size w W

theorem St.below {w W W' : World} {S R G : Array Value} (h : St w W S R G) (hb : Below W.heap.size W W') : St w W' S R G :=
  ⟨by rw [hb.block _ (Array.getElem?_eq_some_iff.1 h.s).1]; exact h.s, by rw [hb.block _ (Array.getElem?_eq_some_iff.1 h.r).1]; exact h.r, by rw [hb.block _ (Array.getElem?_eq_some_iff.1 h.g).1]; exact h.g, h.b.trans (hb.mono h.b.size)⟩
theorem below_setRow {B b : Nat} {w0 w : World} (h : Below B w0 w) (hb : B ≤ b) (cs : Array Value) : Below B w0 (w.setRow b cs) :=
  ⟨h.os, h.tape, h.output, by simpa [World.setRow] using h.size, fun k hk => (setRow_other w b k cs (by omega)).trans (h.block k hk)⟩
theorem St.setG {w W : World} {S R G : Array Value} (h : St w W S R G) (G' : Array Value) : St w (W.setRow (w.heap.size + 1 + 1) G') S R G' :=
  ⟨by rw [setRow_other _ _ _ _ (by omega)]; exact h.s, by rw [setRow_other _ _ _ _ (by omega)]; exact h.r, setRow_heap W _ _ _ 24 (0, 0) h.g, below_setRow h.b (by omega) _⟩
theorem St.setR {w W : World} {S R G : Array Value} (h : St w W S R G) (R' : Array Value) : St w (W.setRow (w.heap.size + 1) R') S R' G :=
  ⟨by rw [setRow_other _ _ _ _ (by omega)]; exact h.s, setRow_heap W _ _ _ 24 (0, 0) h.r, by rw [setRow_other _ _ _ _ (by omega)]; exact h.g, below_setRow h.b (by omega) _⟩
theorem St.alloc {w W : World} {S R G : Array Value} (h : St w W S R G) (o : Obj) : St w (W.alloc o) S R G := h.below ((Below.refl _ _).alloc (Nat.le_refl _) o)
theorem heap_setCell_other (W : World) (a : Addr) (v : Value) (k : Nat) (h : k ≠ a.block) : (W.setCell a v).heap[k]? = W.heap[k]? := by
  simp [World.setCell, Array.getElem?_modify, Ne.symm h]
theorem St.setC {w W : World} {S R G : Array Value} (h : St w W S R G) (j : Nat) (v : Value) : St w (W.setCell ⟨w.heap.size + 1, j, none⟩ v) S (R.setIfInBounds j v) G :=
  ⟨by rw [heap_setCell_other _ _ _ _ (by simp)]; exact h.s, heap_setCell_same W _ j R 24 v h.r, by rw [heap_setCell_other _ _ _ _ (by simp)]; exact h.g, h.b.setCell (p := ⟨w.heap.size + 1, j, none⟩) (by simp) v⟩
theorem St.drew {w W : World} {S R G : Array Value} (h : St w W S R G) : St w W.drew S R G := ⟨h.s, h.r, h.g, same_heap h.b rfl rfl rfl rfl⟩
theorem St.cs {w W : World} {a b c d : Value} {R G : Array Value} (h : St w W #[a, b, c, d] R G) : W.cell? ⟨w.heap.size, 1, none⟩ = some b ∧ W.cell? ⟨w.heap.size, 2, none⟩ = some c ∧ W.cell? ⟨w.heap.size, 3, none⟩ = some d :=
  ⟨by rw [cell_of_row W _ _ _ 29 (0, 0) h.s]; rfl, by rw [cell_of_row W _ _ _ 29 (0, 0) h.s]; rfl, by rw [cell_of_row W _ _ _ 29 (0, 0) h.s]; rfl⟩

/-- A field of a gang is stored. -/
theorem store_g {ops : Array Oper} {rest : List Oper} {o : Oper} {a : Act} {w : World} {Q : Exit → Act → World → Prop} (hgd : o.guard = none) (ty : TypeId) (x y : Operand) (ho : o.op = .store ty x y)
    (hty : (Tryd.prog.info? ty).map (·.size) = some 1) (b j : Nat) (v : Value) (hx : a.eval x = .pointer (some ⟨b, j, none⟩)) (hy : a.eval y = v) (h1 : v.oneCell' = true) (cs : Array Value) (hg : w.heap[b]? = some (.cells cs 24 (0, 0)))
    (hj : j < cs.size) (cs' : Array Value) (hcs : (cs.toList.take j ++ [v] ++ cs.toList.drop (j + 1)).toArray = cs')
    (h : wpList Tryd.prog ops Q rest (a.put o.dst undef) (w.setRow b cs')) : wpList Tryd.prog ops Q (o :: rest) a w := by
  subst hcs
  have hr := run_storeCells_at Tryd.prog b j 24 [v] 0 cs w hg (by simp; omega) (fun x hx => by simp at hx; subst hx; exact h1)
  have hc : v.cells = #[v] := by cases v <;> first | rfl | cases h1
  cases hq : Tryd.prog.info? ty with
  | none => simp [hq] at hty
  | some i =>
    have hs : i.size = 1 := by simpa [hq] using hty
    have hrun : (storeVar ty ⟨b, j, none⟩ v).run Tryd.prog w = .ok () (w.setRow b (cs.toList.take j ++ [v] ++ cs.toList.drop (j + 1)).toArray) := by
      simp only [Nat.add_zero, List.length_cons, List.length_nil, Nat.zero_add] at hr
      simp [storeVar, sizeOf, typeInfo, hq, hc, hs, hr]
    refine wpList_plain hgd fun _ hK => ?_
    unfold Oper.wp execOp
    simp only [ho, hx, hy, Instr.storeAt, Instr.sureAddr, Sem.run_bind, Sem.run_pure, Result.andThen_ok, hrun]
    exact hK _ _ h
theorem size3 : (Tryd.prog.info? 3).map (·.size) = some 1 := by kernel_rfl
theorem size9 : (Tryd.prog.info? 9).map (·.size) = some 1 := by kernel_rfl

/-- A field of g is stored: what lies then. -/
theorem st_g {ops : Array Oper} {rest : List Oper} {o : Oper} {a : Act} {w W : World} {S R G : Array Value} {Q : Exit → Act → World → Prop} (hSt : St w W S R G) (hgd : o.guard = none) (ty : TypeId) (x y : Operand) (ho : o.op = .store ty x y)
    (hty : (Tryd.prog.info? ty).map (·.size) = some 1) (j : Nat) (v : Value) (hx : a.eval x = .pointer (some ⟨w.heap.size + 1 + 1, j, none⟩)) (hy : a.eval y = v) (h1 : v.oneCell' = true)
    (hj : j < G.size) (G' : Array Value) (hcs : (G.toList.take j ++ [v] ++ G.toList.drop (j + 1)).toArray = G')
    (h : ∀ W', St w W' S R G' → wpList Tryd.prog ops Q rest (a.put o.dst undef) W') : wpList Tryd.prog ops Q (o :: rest) a W :=
  store_g hgd ty x y ho hty _ j v hx hy h1 G hSt.g hj G' hcs (h _ (hSt.setG G'))

def Keeps (W W' : World) : Prop := ∀ (N : Nat) (t : TypeId) (cs : Array Value) (fr : Nat × Nat), t ≠ 24 → W.heap[N]? = some (.cells cs t fr) → W'.heap[N]? = some (.cells cs t fr)

/-- The result's gang is stored. -/
theorem st_r {ops : Array Oper} {rest : List Oper} {o : Oper} {a : Act} {w W : World} {S R G : Array Value} {Q : Exit → Act → World → Prop} (hSt : St w W S R G) (hgd : o.guard = none) (x y : Operand) (ho : o.op = .store 24 x y)
    (id : ByteArray) (c m : Int) (lab : ByteArray) (hx : a.eval x = .pointer (some ⟨w.heap.size + 1, 0, none⟩)) (hy : a.eval y = .agg (gcells id c m lab)) (hR : R.size = 4)
    (h : ∀ W', St w W' S (gcells id c m lab) G → Keeps W W' → wpList Tryd.prog ops Q rest (a.put o.dst undef) W') : wpList Tryd.prog ops Q (o :: rest) a W := by
  refine wpList_store_row hgd 24 x y ho _ _ hx hy 24 R hSt.r size24 hR (gall _ _ _ _) (h _ (hSt.setR _) ?_)
  intro N t cs fr ht hN
  rw [setRow_other _ _ _ _ (fun e => ?_)]
  · exact hN
  · subst e
    have := hN.symm.trans hSt.r
    injection this with this
    injection this with _ ht' _
    exact ht ht'

/-- g is loaded. -/
theorem st_l {ops : Array Oper} {rest : List Oper} {o : Oper} {a : Act} {w W : World} {S R G : Array Value} {Q : Exit → Act → World → Prop} (hSt : St w W S R G) (hgd : o.guard = none) (x : Operand) (ho : o.op = .load 24 x)
    (hx : a.eval x = .pointer (some ⟨w.heap.size + 1 + 1, 0, none⟩)) (hG : G.size = 4)
    (h : wpList Tryd.prog ops Q rest (a.put o.dst (.agg G)) W) : wpList Tryd.prog ops Q (o :: rest) a W :=
  wpList_load_row hgd 24 x ho _ hx 24 G (0, 0) _ hSt.g Tryd.underlying24 rfl (by rw [size24, hG]) h

theorem st0 (id card minc lab : ByteArray) (w : World) : St w (((w.alloc (.cells #[.string id, .string card, .string minc, .string lab] 29)).alloc (.cells (gcells E0 0 0 E0) 24)).alloc (.cells (gcells id 0 0 E0) 24)) #[.string id, .string card, .string minc, .string lab] (gcells E0 0 0 E0) (gcells id 0 0 E0) := by
  have e1 : (w.alloc (.cells #[.string id, .string card, .string minc, .string lab] 29)).heap.size = w.heap.size + 1 := by simp
  have e2 : ((w.alloc (.cells #[.string id, .string card, .string minc, .string lab] 29)).alloc (.cells (gcells E0 0 0 E0) 24)).heap.size = w.heap.size + 1 + 1 := by simp
  refine ⟨?_, ?_, ?_, (((Below.refl _ _).alloc (Nat.le_refl _) _).alloc (by rw [e1]; omega) _).alloc (by rw [e2]; omega) _⟩
  · rw [Go.heap_alloc_old _ _ (by omega), Go.heap_alloc_old _ _ (by omega)]; exact Go.heap_alloc_new w _
  · rw [Go.heap_alloc_old _ _ (by omega), ← e1]; exact Go.heap_alloc_new _ _
  · rw [← e2]; exact Go.heap_alloc_new _ _

set_option maxHeartbeats 1000000 in
theorem parse_named (id card minc lab : ByteArray) (hid : ¬ id.toList = []) (w : World) (hE : EV w) (h1 : card.size ≤ 281474976710656) (h2 : minc.size ≤ 281474976710656) :
    Calls Tryd.prog 6 #[.agg #[.string id, .string card, .string minc, .string lab]] w fun e w' => PGEnds (pg id card minc lab) e w' ∧ Below w.heap.size w w' := by
  have hS0 := st0 id card minc lab w
  go_enter Tryd.func6, Tryd.ntmps6
  · have e1 : (id.toList == ([] : List UInt8)) = false := by simp [hid]
    by_cases hcd : card.toList = []
    · have e2 : (card.toList == ([] : List UInt8)) = true := by simp [hcd]
      have hpg : pg id card minc lab = .fault 1 2 E0 id 0 0 E0 := by unfold pg; rw [if_neg hid, if_pos hcd]
      have HPG : Hid _ := hpg
      clear hpg hid hcd
      go_wp2_with fail
      go_region
      go_wp2
      have hb := hS0.b.alloc (o := .cells (fcells 1 2 E0 id 0 0 E0) 33) hS0.b.size
      have hr := hS0.r
      have e4 : (((w.alloc (.cells #[.string id, .string card, .string minc, .string lab] 29)).alloc (.cells (gcells E0 0 0 E0) 24)).alloc (.cells (gcells id 0 0 E0) 24)).heap.size = w.heap.size + 1 + 1 + 1 := by simp
      refine bodyPost_ret (results6 (w.heap.size + 1) 24 (gcells E0 0 0 E0) (0, 0) rfl ?_ rfl _ rfl) rfl ⟨?_, same_heap hb rfl rfl rfl rfl⟩
      · exact (Go.heap_alloc_old _ (.cells (fcells 1 2 E0 id 0 0 E0) 33) (Nat.lt_of_lt_of_eq (by omega) e4.symm)).trans hr
      · unfold PGEnds
        rw [HPG.out]
        refine ⟨_, rfl, ?_⟩
        have h := Go.heap_alloc_new (((w.alloc (.cells #[.string id, .string card, .string minc, .string lab] 29)).alloc (.cells (gcells E0 0 0 E0) 24)).alloc (.cells (gcells id 0 0 E0) 24)) (.cells (fcells 1 2 E0 id 0 0 E0) 33)
        rw [e4] at h
        exact h
    · have e2 : (card.toList == ([] : List UInt8)) = false := by simp [hcd]
      have hpg0 : pg id card minc lab = match ck card.data.toList with
        | none => .fault 2 2 card id 0 0 E0
        | some none => .fault 3 2 card id 0 0 E0
        | some (some c) => if minc.toList = [] then .gang id c c lab else match ck minc.data.toList with
          | none => .fault 2 3 minc id c 0 E0
          | some none => .fault 3 3 minc id c 0 E0
          | some (some m) => if c < m then .fault 4 3 minc id c m E0 else .gang id c m lab := by unfold pg; rw [if_neg hid, if_neg hcd]
      have HP0 : Hid _ := hpg0
      clear hpg0 hid hcd
      go_wp2_with fail
      refine (count_any id E0 0 0 2 card _ (hE.below hS0.b) h1).mono ?_
      rintro e w1 ⟨hce, hb1⟩
      have hS1 := hS0.below hb1
      have hE1 := hE.below hS1.b
      clear hb1 hS0 e2
      rcases hk : ck card.data.toList with _ | _ | c
      · have hk' := HP0.out
        rw [hk] at hk'
        have HPG : Hid _ := hk'
        clear hk'
        rw [hk] at hce
        obtain ⟨N, rfl, hN⟩ := hce
        have hS2 := hS1.setR (gcells E0 0 0 E0)
        have hNb : N ≠ w.heap.size + 1 := fun h => by
          subst h
          have := hN.symm.trans hS1.r
          injection this with this
          injection this with _ ht _
          cases ht
        go_wp2_with (refine wpList_store_row rfl 24 _ _ rfl (w.heap.size + 1) (gcells E0 0 0 E0) rfl rfl 24 _ hS1.r size24 rfl (gall _ _ _ _) ?_)
        refine bodyPost_ret (results6 (w.heap.size + 1) 24 (gcells E0 0 0 E0) (0, 0) rfl hS2.r rfl _ rfl) rfl ⟨?_, hS2.b⟩
        unfold PGEnds
        rw [HPG.out]
        exact ⟨N, rfl, by rw [setRow_other _ _ _ _ hNb]; exact hN⟩
      · have hk' := HP0.out
        rw [hk] at hk'
        have HPG : Hid _ := hk'
        clear hk'
        rw [hk] at hce
        obtain ⟨N, rfl, hN⟩ := hce
        have hS2 := hS1.setR (gcells E0 0 0 E0)
        have hNb : N ≠ w.heap.size + 1 := fun h => by
          subst h
          have := hN.symm.trans hS1.r
          injection this with this
          injection this with _ ht _
          cases ht
        go_wp2_with (refine wpList_store_row rfl 24 _ _ rfl (w.heap.size + 1) (gcells E0 0 0 E0) rfl rfl 24 _ hS1.r size24 rfl (gall _ _ _ _) ?_)
        refine bodyPost_ret (results6 (w.heap.size + 1) 24 (gcells E0 0 0 E0) (0, 0) rfl hS2.r rfl _ rfl) rfl ⟨?_, hS2.b⟩
        unfold PGEnds
        rw [HPG.out]
        exact ⟨N, rfl, by rw [setRow_other _ _ _ _ hNb]; exact hN⟩
      · have hk' := HP0.out
        rw [hk] at hk'
        dsimp only at hk'
        have HPG : Hid _ := hk'
        clear hk' HP0
        rw [hk] at hce
        obtain rfl : e = .returned (.tuple #[.int .i64 c, .pointer none]) := hce
        go_wp2_with (refine st_g hS1 rfl 3 _ _ rfl size3 1 (.int .i64 c) rfl rfl rfl (show 1 < 4 by omega) (gcells id c 0 E0) rfl ?_)
        intro W2 hS2
        clear hS1 hE1
        obtain ⟨q1, q2, q3⟩ := hS2.cs
        have hlt2 : w.heap.size < W2.heap.size := (Array.getElem?_eq_some_iff.1 hS2.s).1
        try go_frame
        by_cases hmc : minc.toList = []
        · have e3 : (minc.toList == ([] : List UInt8)) = true := by simp [hmc]
          have e3' : (minc.toList != ([] : List UInt8)) = false := by rw [bne, e3]; rfl
          have hk' := HPG.out
          rw [if_pos hmc] at hk'
          have HPG2 : Hid _ := hk'
          clear hk' HPG hmc
          go_wp2_with (refine st_g hS2 rfl 3 _ _ rfl size3 2 (.int .i64 c) rfl rfl rfl (show 2 < 4 by omega) (gcells id c c E0) rfl ?_)
          intro W3 hS3
          clear q1 q2 q3 hS2 hlt2
          obtain ⟨q1, q2, q3⟩ := hS3.cs
          try go_frame
          go_wp2_with (refine st_g hS3 rfl 9 _ _ rfl size9 3 (.string lab) rfl rfl rfl (show 3 < 4 by omega) (gcells id c c lab) rfl ?_)
          intro W4 hS4
          try go_frame
          go_wp2_with (first | (refine st_l hS4 rfl _ rfl rfl rfl ?_) | (refine st_r hS4 rfl _ _ rfl id c c lab rfl rfl rfl ?_))
          intro W5 hS5 _
          try go_frame
          go_wp2
          refine bodyPost_ret (results6 (w.heap.size + 1) 24 (gcells id c c lab) (0, 0) rfl hS5.r rfl _ rfl) rfl ⟨?_, hS5.b⟩
          unfold PGEnds
          rw [HPG2.out]
          rfl
        · have e3 : (minc.toList == ([] : List UInt8)) = false := by simp [hmc]
          have e3' : (minc.toList != ([] : List UInt8)) = true := by rw [bne, e3]; rfl
          have hk' := HPG.out
          rw [if_neg hmc] at hk'
          have HPG2 : Hid _ := hk'
          clear hk' HPG hmc
          go_wp2_with (refine st_l hS2 rfl _ rfl rfl rfl ?_)
          refine (count_any id E0 c 0 3 minc _ (hE.below hS2.b) h2).mono ?_
          rintro e w2 ⟨hce2, hb2⟩
          have hS3 := hS2.below hb2
          clear hb2 hS2 q1 q2 q3 hlt2
          rcases hk2 : ck minc.data.toList with _ | _ | m
          · have hk' := HPG2.out
            rw [hk2] at hk'
            have HPG3 : Hid _ := hk'
            clear hk'
            rw [hk2] at hce2
            obtain ⟨N, rfl, hN⟩ := hce2
            go_wp2_with (refine st_r hS3 rfl _ _ rfl E0 0 0 E0 rfl rfl rfl ?_)
            intro W4 hS4 hkeep
            try go_frame
            go_wp2
            refine bodyPost_ret (results6 (w.heap.size + 1) 24 (gcells E0 0 0 E0) (0, 0) rfl hS4.r rfl _ rfl) rfl ⟨?_, hS4.b⟩
            unfold PGEnds
            rw [HPG3.out]
            exact ⟨N, rfl, hkeep N 33 _ (0, 0) (by decide) hN⟩
          · have hk' := HPG2.out
            rw [hk2] at hk'
            have HPG3 : Hid _ := hk'
            clear hk'
            rw [hk2] at hce2
            obtain ⟨N, rfl, hN⟩ := hce2
            go_wp2_with (refine st_r hS3 rfl _ _ rfl E0 0 0 E0 rfl rfl rfl ?_)
            intro W4 hS4 hkeep
            try go_frame
            go_wp2
            refine bodyPost_ret (results6 (w.heap.size + 1) 24 (gcells E0 0 0 E0) (0, 0) rfl hS4.r rfl _ rfl) rfl ⟨?_, hS4.b⟩
            unfold PGEnds
            rw [HPG3.out]
            exact ⟨N, rfl, hkeep N 33 _ (0, 0) (by decide) hN⟩
          · have hk' := HPG2.out
            rw [hk2] at hk'
            dsimp only at hk'
            rw [hk2] at hce2
            obtain rfl : e = .returned (.tuple #[.int .i64 m, .pointer none]) := hce2
            go_wp2_with (refine st_g hS3 rfl 3 _ _ rfl size3 2 (.int .i64 m) rfl rfl rfl (show 2 < 4 by omega) (gcells id c m E0) rfl ?_)
            intro W4 hS4
            clear hS3
            obtain ⟨q1, q2, q3⟩ := hS4.cs
            have hlt4 : w.heap.size < W4.heap.size := (Array.getElem?_eq_some_iff.1 hS4.s).1
            try go_frame
            by_cases hcm : c < m
            · rw [if_pos hcm] at hk'
              have HPG3 : Hid _ := hk'
              clear hk' HPG2
              have r0 : W4.cell? ⟨w.heap.size + 1, 0, none⟩ = some (.string E0) := by rw [cell_of_row W4 _ _ _ 24 (0, 0) hS4.r]; rfl
              have r1 : W4.cell? ⟨w.heap.size + 1, 1, none⟩ = some (.int .i64 0) := by rw [cell_of_row W4 _ _ _ 24 (0, 0) hS4.r]; rfl
              have r2 : W4.cell? ⟨w.heap.size + 1, 2, none⟩ = some (.int .i64 0) := by rw [cell_of_row W4 _ _ _ 24 (0, 0) hS4.r]; rfl
              have r3 : W4.cell? ⟨w.heap.size + 1, 3, none⟩ = some (.string E0) := by rw [cell_of_row W4 _ _ _ 24 (0, 0) hS4.r]; rfl
              have g0 : W4.cell? ⟨w.heap.size + 1 + 1, 0, none⟩ = some (.string id) := by rw [cell_of_row W4 _ _ _ 24 (0, 0) hS4.g]; rfl
              have g1 : W4.cell? ⟨w.heap.size + 1 + 1, 1, none⟩ = some (.int .i64 c) := by rw [cell_of_row W4 _ _ _ 24 (0, 0) hS4.g]; rfl
              have g2 : W4.cell? ⟨w.heap.size + 1 + 1, 2, none⟩ = some (.int .i64 m) := by rw [cell_of_row W4 _ _ _ 24 (0, 0) hS4.g]; rfl
              have g3 : W4.cell? ⟨w.heap.size + 1 + 1, 3, none⟩ = some (.string E0) := by rw [cell_of_row W4 _ _ _ 24 (0, 0) hS4.g]; rfl
              have fz : ∀ j, W4.frozen? ⟨w.heap.size + 1, j, none⟩ = false := fun j => by simp [World.frozen?, hS4.r]
              have fz0 := fz 0
              have fz1 := fz 1
              have fz2 := fz 2
              have fz3 := fz 3
              have hl3 : w.heap.size + 1 < W4.heap.size := (Array.getElem?_eq_some_iff.1 hS4.r).1
              have hl4 : w.heap.size + 1 + 1 < W4.heap.size := (Array.getElem?_eq_some_iff.1 hS4.g).1
              clear fz
              go_upto_region 24 with fail
              go_region
              all_goals go_wp2
              have hS5 := (((hS4.setC 0 (.string E0)).setC 1 (.int .i64 0)).setC 2 (.int .i64 0)).setC 3 (.string E0)
              have hS6 := hS5.alloc (.cells (fcells 4 3 minc id c m E0) 33)
              have hsz : (((((W4.setCell ⟨w.heap.size + 1, 0, none⟩ (.string E0)).setCell ⟨w.heap.size + 1, 1, none⟩ (.int .i64 0)).setCell ⟨w.heap.size + 1, 2, none⟩ (.int .i64 0)).setCell ⟨w.heap.size + 1, 3, none⟩ (.string E0))).heap.size = W4.heap.size := by simp [World.setCell]
              refine bodyPost_ret (results6 (w.heap.size + 1) 24 (gcells E0 0 0 E0) (0, 0) rfl ?_ rfl _ rfl) rfl ⟨?_, same_heap hS6.b rfl rfl rfl rfl⟩
              · exact hS6.r
              unfold PGEnds
              rw [HPG3.out]
              refine ⟨_, rfl, ?_⟩
              have h := Go.heap_alloc_new ((((W4.setCell ⟨w.heap.size + 1, 0, none⟩ (.string E0)).setCell ⟨w.heap.size + 1, 1, none⟩ (.int .i64 0)).setCell ⟨w.heap.size + 1, 2, none⟩ (.int .i64 0)).setCell ⟨w.heap.size + 1, 3, none⟩ (.string E0)) (.cells (fcells 4 3 minc id c m E0) 33)
              rw [hsz] at h
              exact h
            · rw [if_neg hcm] at hk'
              have HPG3 : Hid _ := hk'
              clear hk' HPG2
              go_wp2_with (refine st_g hS4 rfl 9 _ _ rfl size9 3 (.string lab) rfl rfl rfl (show 3 < 4 by omega) (gcells id c m lab) rfl ?_)
              intro W5 hS5
              try go_frame
              go_wp2_with (first | (refine st_l hS5 rfl _ rfl rfl rfl ?_) | (refine st_r hS5 rfl _ _ rfl id c m lab rfl rfl rfl ?_))
              intro W6 hS6 _
              try go_frame
              go_wp2
              refine bodyPost_ret (results6 (w.heap.size + 1) 24 (gcells id c m lab) (0, 0) rfl hS6.r rfl _ rfl) rfl ⟨?_, hS6.b⟩
              unfold PGEnds
              rw [HPG3.out]
              rfl

end Go.Proofs.Qxb6627868aDoor
