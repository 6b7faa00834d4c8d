/- SEAT b6627868aD, WALKS 8: parseGangModel. -/
import Derived.Test.Qxb6627868aDoorWalks7
namespace Go.Proofs.Qxb6627868aDoor
open Go.ChangeShapes Go.WideShapes Go.ChangeAt Go.RowKit

/-- The model's two result variables, as they lie. -/
structure M2 (w W : World) (R F : Array Value) : Prop where
  r : W.heap[w.heap.size]? = some (.cells R 24 (0, 0))
  f : W.heap[w.heap.size + 1]? = some (.cells F 33 (0, 0))
  b : Below w.heap.size w W

theorem M2.below {w W W' : World} {R F : Array Value} (h : M2 w W R F) (hb : Below W.heap.size W W') : M2 w W' R F :=
  ⟨by rw [hb.block _ (Array.getElem?_eq_some_iff.1 h.r).1]; exact h.r, by rw [hb.block _ (Array.getElem?_eq_some_iff.1 h.f).1]; exact h.f, h.b.trans (hb.mono h.b.size)⟩
theorem M2.setR {w W : World} {R F : Array Value} (h : M2 w W R F) (R' : Array Value) : M2 w (W.setRow w.heap.size R') R' F :=
  ⟨setRow_heap W _ _ _ 24 (0, 0) h.r, by rw [setRow_other _ _ _ _ (by omega)]; exact h.f, below_setRow h.b (Nat.le_refl _) _⟩
theorem M2.setF {w W : World} {R F : Array Value} (h : M2 w W R F) (F' : Array Value) : M2 w (W.setRow (w.heap.size + 1) F') R F' :=
  ⟨by rw [setRow_other _ _ _ _ (by omega)]; exact h.r, setRow_heap W _ _ _ 33 (0, 0) h.f, below_setRow h.b (by omega) _⟩

theorem fall (pb st : Int) (s id : ByteArray) (c m : Int) (lab : ByteArray) : (fcells pb st s id c m lab).all (·.oneCell') = true := by kernel_rfl

theorem m2_r {ops : Array Oper} {rest : List Oper} {o : Oper} {a : Act} {w W : World} {R F : Array Value} {Q : Exit → Act → World → Prop} (hM : M2 w W R F) (hgd : o.guard = none) (x y : Operand) (ho : o.op = .store 24 x y)
    (id : ByteArray) (c m : Int) (lab : ByteArray) (hx : a.eval x = .pointer (some ⟨w.heap.size, 0, none⟩)) (hy : a.eval y = .agg (gcells id c m lab)) (hR : R.size = 4)
    (h : ∀ W', M2 w W' (gcells id c m lab) F → wpList Tryd.prog ops Q rest (a.put o.dst undef) W') : wpList Tryd.prog ops Q (o :: rest) a W :=
  wpList_store_row hgd 24 x y ho _ _ hx hy 24 R hM.r size24 hR (gall _ _ _ _) (h _ (hM.setR _))
theorem m2_f {ops : Array Oper} {rest : List Oper} {o : Oper} {a : Act} {w W : World} {R F : Array Value} {Q : Exit → Act → World → Prop} (hM : M2 w W R F) (hgd : o.guard = none) (x y : Operand) (ho : o.op = .store 33 x y)
    (pb st : Int) (s id : ByteArray) (c m : Int) (lab : ByteArray) (hx : a.eval x = .pointer (some ⟨w.heap.size + 1, 0, none⟩)) (hy : a.eval y = .agg (fcells pb st s id c m lab)) (hF : F.size = 7)
    (h : ∀ W', M2 w W' R (fcells pb st s id c m lab) → wpList Tryd.prog ops Q rest (a.put o.dst undef) W') : wpList Tryd.prog ops Q (o :: rest) a W :=
  wpList_store_row hgd 33 x y ho _ _ hx hy 33 F hM.f size33 hF (fall _ _ _ _ _ _ _) (h _ (hM.setF _))

theorem m2_0 (w : World) : M2 w ((w.alloc (.cells (gcells E0 0 0 E0) 24)).alloc (.cells (fcells 0 0 E0 E0 0 0 E0) 33)) (gcells E0 0 0 E0) (fcells 0 0 E0 E0 0 0 E0) := by
  refine ⟨?_, heap_alloc2_new w _ _, ((Below.refl _ _).alloc (Nat.le_refl _) _).alloc (by simp) _⟩
  rw [Go.heap_alloc_old _ _ (by simp)]
  exact Go.heap_alloc_new w _

theorem results7 {tmps : Array Value} {w : World} (g : Nat) (R F : Array Value) (hp : tmps.getD 8 undef = .pointer (some ⟨g, 0, none⟩)) (hq : tmps.getD 10 undef = .pointer (some ⟨g + 1, 0, none⟩)) (hr : w.heap[g]? = some (.cells R 24 (0, 0))) (hf : w.heap[g + 1]? = some (.cells F 33 (0, 0)))
    (hR : R.size = 4) (hF : F.size = 7) (u : Value) (hu : tmps.getD 9 undef = u) :
    (results Tryd.f7 tmps).run Tryd.prog w = .ok (.tuple #[.agg R, u, .agg F]) w := by
  have h1 := run_loadVar_row w g 24 24 R (0, 0) _ hr Tryd.underlying24 rfl (by rw [size24, hR])
  have h2 := run_loadVar_row w (g + 1) 33 33 F (0, 0) _ hf Tryd.underlying33 rfl (by rw [size33, hF])
  have hp' : tmps[8]?.getD undef = .pointer (some ⟨g, 0, none⟩) := by simpa using hp
  have hq' : tmps[10]?.getD undef = .pointer (some ⟨g + 1, 0, none⟩) := by simpa using hq
  have hu' : tmps[9]?.getD undef = u := by simpa using hu
  simp [results, hp', hq', hu', asAddr, h1, h2]

/-- What the model answers. -/
def ModelEnds (o : Out) (e : Ending) : Prop := match o with
  | .inl (id, c, m, lab) => e = .returned (.tuple #[.agg (gcells id c m lab), .bool false, .agg (fcells 0 0 E0 E0 0 0 E0)])
  | .inr (pb, st, s, id, c, m, lab) => e = .returned (.tuple #[.agg (gcells E0 0 0 E0), .bool true, .agg (fcells pb st s id c m lab)])

end Go.Proofs.Qxb6627868aDoor
