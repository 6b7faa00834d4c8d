/- SEAT b6627826a, WALKS 2: (*PathBuilder).Name. -/
import Derived.Test.Qxb6627826aWalks1
namespace Go.Proofs.Qxb6627826a
open Go.ChangeShapes Go.WideShapes Go.ChangeAt Go.RowKit

theorem Row.form {base : Nat} {w : World} {v : Value} {xs : List UInt8} (h : Row base w v xs) : ∃ a cap, v = .slice a xs.length cap := by
  rcases h.2 with ⟨rfl, hn⟩ | ⟨g, cap, cur, rfl, _⟩
  · exact ⟨none, 0, by rw [hn]⟩
  · exact ⟨_, _, rfl⟩

/-- A builder at block b: its two slices, each owning its bytes, in two rows. -/
structure PB' (w : World) (b : Nat) (p q : Value) (bp bq : List UInt8) : Prop where
  blk : w.heap[b]? = some (.cells #[p, q] 34 (0, 0))
  path : Row (b + 1) w p bp
  ptr : Row (b + 1) w q bq
  apart : ∀ k, p.ownBlock = some k → q.ownBlock ≠ some k
def PB (w : World) (b : Nat) (bp bq : List UInt8) : Prop := ∃ p q, PB' w b p q bp bq

theorem PB'.lt {w : World} {b : Nat} {p q : Value} {bp bq : List UInt8} (h : PB' w b p q bp bq) : b < w.heap.size := (Array.getElem?_eq_some_iff.1 h.blk).1
theorem PB'.cell0 {w : World} {b : Nat} {p q : Value} {bp bq : List UInt8} (h : PB' w b p q bp bq) : w.cell? ⟨b, 0, none⟩ = some p := by rw [cell_of_row w b _ _ 34 (0, 0) h.blk]; rfl
theorem PB'.cell1 {w : World} {b : Nat} {p q : Value} {bp bq : List UInt8} (h : PB' w b p q bp bq) : w.cell? ⟨b, 1, none⟩ = some q := by rw [cell_of_row w b _ _ 34 (0, 0) h.blk]; rfl

def stepP (p s : List UInt8) : List UInt8 := if s = [] then p else if p = [] then s else p ++ [46] ++ s
def stepQ (q s : List UInt8) : List UInt8 := if s = [] then q else q ++ seg s

theorem Grew.blk {w w1 : World} {b : Nat} {v v1 : Value} {xs : List UInt8} (h : Row (b + 1) w v xs) (g : Grew w w1 v v1) (hb : b < w.heap.size) : w1.heap[b]? = w.heap[b]? :=
  g.1.block b hb (fun e => by have := (World.ownsRow.lt h b e.symm).1; omega)

theorem size26 : (Try.prog.info? 26).map (·.size) = some 1 := by kernel_rfl

theorem Row.one {base : Nat} {w : World} {v : Value} {xs : List UInt8} (h : Row base w v xs) : v.oneCell' = true := by
  obtain ⟨a, c, rfl⟩ := h.form; rfl

theorem run_storeVar_field (w : World) (b j : Nat) (hj : j < 2) (v p q : Value) (h1 : v.oneCell' = true) (hg : w.heap[b]? = some (.cells #[p, q] 34 (0, 0))) :
    (storeVar 26 ⟨b, j, none⟩ v).run Try.prog w = .ok () (w.setRow b (#[p, q].setIfInBounds j v)) := by
  have hr := run_storeCells_at Try.prog b j 34 [v] 0 #[p, q] w hg (by simp; omega) (fun x hx => by simp at hx; subst hx; exact h1)
  have hc : v.cells = #[v] := by cases v <;> first | rfl | cases h1
  have he : (List.take (j + 0) #[p, q].toList ++ [v] ++ List.drop (j + 0 + [v].length) #[p, q].toList).toArray = #[p, q].setIfInBounds j v := by
    match j, hj with
    | 0, _ => rfl
    | 1, _ => rfl
  rw [he] at hr
  cases hq : Try.prog.info? 26 with
  | none => have := size26; simp [hq] at this
  | some i =>
    have hs : i.size = 1 := by have := size26; simpa [hq] using this
    simp [storeVar, sizeOf, typeInfo, hq, hc, hs, hr]

theorem store_field {ops : Array Oper} {rest : List Oper} {o : Oper} {a : Act} {w : World} {Q : Exit → Act → World → Prop} (hgd : o.guard = none) (x y : Operand) (ho : o.op = .store 26 x y)
    (b j : Nat) (hj : j < 2) (v : Value) (hx : a.eval x = .pointer (some ⟨b, j, none⟩)) (hy : a.eval y = v) (h1 : v.oneCell' = true) (p q : Value) (hg : w.heap[b]? = some (.cells #[p, q] 34 (0, 0)))
    (cs : Array Value) (hcs : #[p, q].setIfInBounds j v = cs)
    (h : wpList Try.prog ops Q rest (a.put o.dst undef) (w.setRow b cs)) : wpList Try.prog ops Q (o :: rest) a w := by
  subst hcs
  refine wpList_plain hgd fun _ hK => ?_
  unfold Oper.wp execOp
  simp only [ho, hx, hy, Instr.storeAt, Instr.sureAddr, Sem.run_bind, Sem.run_pure, Result.andThen_ok, run_storeVar_field w b j hj v p q h1 hg]
  exact hK _ _ h

theorem Row.setRow {b : Nat} {w : World} {v : Value} {xs : List UInt8} (h : Row (b + 1) w v xs) (cs : Array Value) : Row (b + 1) (w.setRow b cs) v xs := by
  refine ⟨h.1, ?_⟩
  rcases h.2 with e | ⟨g, cap, cur, hv, hbg, hg, hr⟩
  · exact .inl e
  · exact .inr ⟨g, cap, cur, hv, hbg, by rw [setRow_other w b g cs (by omega)]; exact hg, hr⟩

theorem below_setRow {B b : Nat} {w0 w : World} (h : Below B w0 w) (hb : B ≤ b) (cs : Array Value) : Below B w0 (w.setRow b cs) :=
  ⟨h.os, h.tape, h.output, by simpa [World.setRow] using h.size, fun k hk => (setRow_other w b k cs (by omega)).trans (h.block k hk)⟩

/-- The path has grown and lies in its field. -/
theorem PB'.setP {w w1 : World} {b : Nat} {p q v1 : Value} {bp bq bp' : List UInt8} (hP : PB' w b p q bp bq) (h1 : Row (b + 1) w1 v1 bp') (g : Grew w w1 p v1) :
    w1.heap[b]? = some (.cells #[p, q] 34 (0, 0)) ∧ PB' (w1.setRow b #[v1, q]) b v1 q bp' bq ∧ Below b w (w1.setRow b #[v1, q]) := by
  have hb := (Grew.blk hP.path g hP.lt).trans hP.blk
  have hq : Row (b + 1) w1 q bq := World.ownsRow.kept hP.ptr g.1 (by
    cases hqb : q.ownBlock with
    | none => exact .inl rfl
    | some k => exact .inr (fun e => hP.apart k e.symm hqb))
  refine ⟨hb, ⟨setRow_heap w1 b _ _ 34 (0, 0) hb, h1.setRow _, hq.setRow _, ?_⟩, below_setRow ?_ (Nat.le_refl _) _⟩
  · intro k hk hqk
    rcases g.2 with e | ⟨k', e, hk'⟩
    · exact hP.apart k (e.symm.trans hk) hqk
    · have := (World.ownsRow.lt hP.ptr k hqk).2
      rw [e] at hk
      cases hk
      omega
  · exact (Below.refl b w).grown g.1 (Nat.le_of_lt hP.lt) (fun k hk => by have := (World.ownsRow.lt hP.path k hk).1; omega)

/-- The pointer has grown and lies in its field. -/
theorem PB'.setQ {w w1 : World} {b : Nat} {p q v1 : Value} {bp bq bq' : List UInt8} (hP : PB' w b p q bp bq) (h1 : Row (b + 1) w1 v1 bq') (g : Grew w w1 q v1) :
    w1.heap[b]? = some (.cells #[p, q] 34 (0, 0)) ∧ PB' (w1.setRow b #[p, v1]) b p v1 bp bq' ∧ Below b w (w1.setRow b #[p, v1]) := by
  have hb := (Grew.blk hP.ptr g hP.lt).trans hP.blk
  have hp : Row (b + 1) w1 p bp := World.ownsRow.kept hP.path g.1 (by
    cases hqb : p.ownBlock with
    | none => exact .inl rfl
    | some k => exact .inr (fun e => hP.apart k hqb e.symm))
  refine ⟨hb, ⟨setRow_heap w1 b _ _ 34 (0, 0) hb, hp.setRow _, h1.setRow _, ?_⟩, below_setRow ?_ (Nat.le_refl _) _⟩
  · intro k hk hqk
    rcases g.2 with e | ⟨k', e, hk'⟩
    · exact hP.apart k hk (e.symm.trans hqk)
    · have := (World.ownsRow.lt hP.path k hk).2
      rw [e] at hqk
      cases hqk
      omega
  · exact (Below.refl b w).grown g.1 (Nat.le_of_lt hP.lt) (fun k hk => by have := (World.ownsRow.lt hP.ptr k hk).1; omega)

set_option maxHeartbeats 2000000 in
theorem name_any (b : Nat) (bp bq : List UInt8) (s : ByteArray) (w : World) (hPB : PB w b bp bq) (hb1 : bp.length + 1 + s.size ≤ maxB) (hb2 : bq.length + 1 + 2 * s.size ≤ maxB) :
    Calls Try.prog 13 #[.pointer (some ⟨b, 0, none⟩), .string s] w fun e w' => e = .returned (.tuple #[]) ∧ PB w' b (stepP bp s.data.toList) (stepQ bq s.data.toList) ∧ Below b w w' := by
  obtain ⟨p, q, hP⟩ := hPB
  have hlt := hP.lt
  have hc0 := hP.cell0
  have hc1 := hP.cell1
  obtain ⟨pa, pc, rfl⟩ := hP.path.form
  go_enter Try.func13, Try.ntmps13
  by_cases hs : s.toList = []
  · have e1 : (s.toList == ([] : List UInt8)) = true := by simp [hs]
    have hs' : s.data.toList = [] := by rw [← ByteArray.toList_eq]; exact hs
    go_wp2
    refine bodyPost_ret (results_none rfl _ _ _) rfl ?_
    exact ⟨rfl, ⟨_, _, by rw [hs']; exact hP⟩, Below.refl _ _⟩
  · have e1 : (s.toList == ([] : List UInt8)) = false := by simp [hs]
    have hs' : ¬ s.data.toList = [] := by rw [← ByteArray.toList_eq]; exact hs
    by_cases hp0 : bp = []
    · subst hp0
      go_wp2_with (at_builtin; refine append_text rfl _ _ rfl (b + 1) _ [] rfl hP.path s rfl (by simp only [List.length_nil] at hb1 ⊢; omega) hlt ?_)
      intro v1 w1 h1 g1
      obtain ⟨hb1', hP1, bel1⟩ := hP.setP h1 g1
      have hone1 := h1.one
      have hc1' := hP1.cell1
      try go_frame
      go_wp2_with (refine store_field rfl _ _ rfl b 0 (by decide) v1 rfl rfl hone1 _ _ hb1' #[v1, q] rfl ?_)
      refine (seg_any (b + 1) q bq s _ hP1.ptr hP1.lt hb2).mono ?_
      rintro e w2 ⟨v2, rfl, h2, g2⟩
      obtain ⟨hb2', hP2, bel2⟩ := hP1.setQ h2 g2
      have hone2 := h2.one
      go_wp2_with (refine store_field rfl _ _ rfl b 1 (by decide) v2 rfl rfl hone2 _ _ hb2' #[v1, v2] rfl ?_)
      go_end0
      exact ⟨rfl, ⟨_, _, by rw [show stepP [] s.data.toList = s.data.toList by simp [stepP], show stepQ bq s.data.toList = bq ++ seg s.data.toList by simp only [stepQ, if_neg hs']]; exact hP2⟩, bel1.trans bel2⟩
    · have hp0' : (0 : Int) < (bp.length : Int) := by have := List.length_pos_iff.2 hp0; omega
      go_wp2_with (at_builtin; refine append_one rfl _ _ rfl (b + 1) _ bp rfl hP.path 46 _ rfl _ rfl rfl (by omega) hlt ?_)
      intro v0 w0 h0 g0
      obtain ⟨hb0', hP0, bel0⟩ := hP.setP h0 g0
      have hone0 := h0.one
      have hc0' := hP0.cell0
      have hlt0 := hP0.lt
      try go_frame
      go_wp2_with (first | (refine store_field rfl _ _ rfl b 0 (by decide) v0 rfl rfl hone0 _ _ hb0' #[v0, q] rfl ?_) | (at_builtin; refine append_text rfl _ _ rfl (b + 1) _ (bp ++ [46]) rfl hP0.path s rfl (by simp only [List.length_append, List.length_cons, List.length_nil]; omega) hlt0 ?_))
      intro v1 w1 h1 g1
      obtain ⟨hb1', hP1, bel1⟩ := hP0.setP h1 g1
      have hone1 := h1.one
      have hc1' := hP1.cell1
      try go_frame
      go_wp2_with (refine store_field rfl _ _ rfl b 0 (by decide) v1 rfl rfl hone1 _ _ hb1' #[v1, q] rfl ?_)
      refine (seg_any (b + 1) q bq s _ hP1.ptr hP1.lt hb2).mono ?_
      rintro e w2 ⟨v2, rfl, h2, g2⟩
      obtain ⟨hb2', hP2, bel2⟩ := hP1.setQ h2 g2
      have hone2 := h2.one
      go_wp2_with (refine store_field rfl _ _ rfl b 1 (by decide) v2 rfl rfl hone2 _ _ hb2' #[v1, v2] rfl ?_)
      go_end0
      exact ⟨rfl, ⟨_, _, by rw [show stepP bp s.data.toList = bp ++ 46 :: s.data.toList by rw [stepP, if_neg hs', if_neg hp0, List.append_assoc]; rfl, show stepQ bq s.data.toList = bq ++ seg s.data.toList by simp only [stepQ, if_neg hs']]; exact hP2⟩, bel0.trans (bel1.trans bel2)⟩

end Go.Proofs.Qxb6627826a
