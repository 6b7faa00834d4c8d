/- WALKS OF SEAT b6627747a, 6: a report body is built. -/
import Derived.Test.Qxb6627747aWalks5
namespace Go.Proofs.Qxb6627747a
open Go.ChangeShapes Go.WideShapes Go.ChangeAt Go.RowKit

/-- A row laid into a row. -/
def layIn (cells : Array Value) (off : Nat) (vs : Array Value) : Array Value := vs.zipIdx.foldl (fun cs (c, j) => cs.setIfInBounds (off + j) c) cells

theorem layL (off : Nat) : ∀ (l : List Value) (k : Nat) (cells : Array Value), ((l.zipIdx k).foldl (fun cs (p : Value × Nat) => cs.setIfInBounds (off + p.2) p.1) cells).size = cells.size ∧
    (off + k + l.length ≤ cells.size → ∀ i, ((l.zipIdx k).foldl (fun cs (p : Value × Nat) => cs.setIfInBounds (off + p.2) p.1) cells)[i]? = if off + k ≤ i ∧ i < off + k + l.length then l[i - (off + k)]? else cells[i]?)
  | [], k, cells => by
    refine ⟨rfl, fun _ i => ?_⟩
    rw [if_neg (by simp)]
    rfl
  | v :: l, k, cells => by
    obtain ⟨h1, h2⟩ := layL off l (k + 1) (cells.setIfInBounds (off + k) v)
    refine ⟨by simpa using h1, fun hle i => ?_⟩
    simp only [List.length_cons] at hle ⊢
    have h3 := h2 (by simp; omega) i
    simp only [List.zipIdx_cons, List.foldl_cons]
    rw [h3]
    by_cases hi : off + (k + 1) ≤ i ∧ i < off + (k + 1) + l.length
    · rw [if_pos hi, if_pos (by omega)]
      have e : i - (off + k) = (i - (off + (k + 1))) + 1 := by omega
      rw [e, List.getElem?_cons_succ]
    · rw [if_neg hi]
      by_cases he : i = off + k
      · subst he
        rw [if_pos (by omega), Array.getElem?_setIfInBounds_self_of_lt (by omega)]
        simp
      · rw [if_neg (by omega), Array.getElem?_setIfInBounds_ne (by omega)]

theorem layIn_size (cells : Array Value) (off : Nat) (vs : Array Value) : (layIn cells off vs).size = cells.size := by
  unfold layIn
  rw [← Array.foldl_toList, Array.toList_zipIdx]
  exact (layL off vs.toList 0 cells).1

theorem layIn_get (cells : Array Value) (off : Nat) (vs : Array Value) (h : off + vs.size ≤ cells.size) (i : Nat) : (layIn cells off vs)[i]? = if off ≤ i ∧ i < off + vs.size then vs[i - off]? else cells[i]? := by
  unfold layIn
  rw [← Array.foldl_toList, Array.toList_zipIdx]
  have := (layL off vs.toList 0 cells).2 (by simpa using h) i
  simpa using this

theorem zero35 : ∃ z : Array Value, z.size = 648 ∧ (Try.prog.info? 35).map (fun i => (i.zero, i.size)) = some (some (.agg z), 648) :=
  ⟨(bs (List.replicate 648 0)).toArray, by rw [List.size_toArray, bs_length, List.length_replicate], by kernel_rfl⟩

def places35 : Array (Nat × Nat) := #[(0, 16), (16, 48), (64, 48), (112, 8), (120, 8), (128, 8), (136, 48), (184, 48), (232, 48), (280, 48), (328, 192), (520, 64), (584, 16), (600, 48)]

theorem run_places35 (w : World) : ∃ fs, Try.prog.underlying 35 = some (.struct fs) ∧ (fs.mapM fun (f : Field) => do pure (f.offset, ← sizeOf f.type)).run Try.prog w = .ok places35 w :=
  ⟨_, Try.underlying35, by kernel_rfl⟩

/-- '&tdx.ReportBody{MRTD: m, RTMR: rt}', ahead of its address: its cells. -/
theorem run_build35 (w : World) (m rt : List Int) (hm : m.length = 48) (hrt : rt.length = 192) : ∃ cs : Array Value, (Instr.build 35 #[(6, .agg (bs m).toArray), (10, .agg (bs rt).toArray)]).run Try.prog w = .ok (.agg cs) w ∧
    (∀ j v, (bs m)[j]? = some v → cs[136 + j]? = some v) ∧ (∀ j v, (bs rt)[j]? = some v → cs[328 + j]? = some v) := by
  obtain ⟨z, hz, hzi⟩ := zero35
  obtain ⟨fs, hu, hp⟩ := run_places35 w
  have hz1 := (zero_of_info hzi).1 w
  have hsm : (bs m).toArray.size = 48 := by simp [bs_length, hm]
  have hsr : (bs rt).toArray.size = 192 := by simp [bs_length, hrt]
  have hl1 : (layIn z 136 (bs m).toArray).size = 648 := by rw [layIn_size, hz]
  have hfill : Instr.fill (fun x => places35[x]?) z [(6, .agg (bs m).toArray), (10, .agg (bs rt).toArray)] = some (layIn (layIn z 136 (bs m).toArray) 328 (bs rt).toArray) := by
    have e6 : places35[6]? = some (136, 48) := rfl
    have e10 : places35[10]? = some (328, 192) := rfl
    unfold Instr.fill
    simp only [e6, Value.cells, hsm, hz, ne_eq, not_true_eq_false, decide_false, Bool.false_or, gt_iff_lt]
    rw [if_neg (by decide)]
    unfold Instr.fill
    simp only [e10, Value.cells, hsr, ne_eq, not_true_eq_false, decide_false, Bool.false_or, gt_iff_lt]
    have hl1' : (Array.foldl (fun cs x => match x with | (c, j) => cs.setIfInBounds (136 + j) c) z (bs m).toArray.zipIdx).size = 648 := hl1
    rw [if_neg (by rw [hl1']; decide)]
    rfl
  refine ⟨layIn (layIn z 136 (bs m).toArray) 328 (bs rt).toArray, ?_, fun j v hj => ?_, fun j v hj => ?_⟩
  · unfold Instr.build
    rw [Sem.run_bind, hz1]
    simp only [Result.andThen_ok, Value.cells, Sem.run_bind, run_underlying hu, hp, hfill, Sem.run_pure]
  · have hjl : j < (bs m).length := (List.getElem?_eq_some_iff.1 hj).1
    rw [bs_length, hm] at hjl
    rw [layIn_get _ _ _ (by rw [hl1, hsr]; decide), if_neg (by omega), layIn_get _ _ _ (by rw [hz, hsm]; decide), if_pos (by omega)]
    have e : 136 + j - 136 = j := by omega
    rw [e]
    simpa using hj
  · have hjl : j < (bs rt).length := (List.getElem?_eq_some_iff.1 hj).1
    rw [bs_length, hrt] at hjl
    rw [layIn_get _ _ _ (by rw [hl1, hsr]; decide), if_pos (by omega)]
    have e : 328 + j - 328 = j := by omega
    rw [e]
    simpa using hj

theorem wpList_build35 (w : World) {ops : Array Oper} {rest : List Oper} {o : Oper} {a : Act} {Q : Exit → Act → World → Prop} (hg : o.guard = none) (x y : Operand) (hop : o.op = Op.build 35 #[(6, x), (10, y)])
    (m rt : List Int) (hm : m.length = 48) (hrt : rt.length = 192) (hx : a.eval x = .agg (bs m).toArray) (hy : a.eval y = .agg (bs rt).toArray)
    (hK : ∀ cs : Array Value, (∀ j v, (bs m)[j]? = some v → cs[136 + j]? = some v) → (∀ j v, (bs rt)[j]? = some v → cs[328 + j]? = some v) → wpList Try.prog ops Q rest (a.put o.dst (.agg cs)) w) :
    wpList Try.prog ops Q (o :: rest) a w := by
  refine wpList_plain hg fun K hK' => ?_
  obtain ⟨cs, hrun, h1, h2⟩ := run_build35 w m rt hm hrt
  have e : (#[(6, x), (10, y)] : Array (Nat × Operand)).map (fun (i, x) => (i, a.eval x)) = #[(6, .agg (bs m).toArray), (10, .agg (bs rt).toArray)] := by simp [hx, hy]
  unfold Oper.wp execOp
  simp only [hop, e, Sem.run_bind, hrun, Result.andThen_ok, Sem.run_pure]
  exact hK' _ _ (hK cs h1 h2)

/-- The five registers of a report body, as it lies in memory. -/
theorem regs_of_body {w : World} {pb : Nat} {cs : Array Value} {t : TypeId} {fr : Nat × Nat} (hb : w.heap[pb]? = some (.cells cs t fr)) (m rt : List Int)
    (h1 : ∀ j v, (bs m)[j]? = some v → cs[136 + j]? = some v) (h2 : ∀ j v, (bs rt)[j]? = some v → cs[328 + j]? = some v) (r : Nat) : w.rangeAt pb (regOff r) (bs (regOf m rt r)) := by
  unfold regOff regOf
  split
  · intro j v hj
    rw [cell_of_row w pb _ cs t fr hb]
    exact h1 j v hj
  · have hrt : w.rangeAt pb 328 (bs rt) := fun j v hj => by
      rw [cell_of_row w pb _ cs t fr hb]
      exact h2 j v hj
    exact rangeAt_sub hrt ((r - 1) * 48) 48

end Go.Proofs.Qxb6627747a
