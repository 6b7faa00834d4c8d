/- SEAT b6627778a: MANY OPERATIONS OF A REGION THAT DRAWS, TAKEN FIRST AT ONE STROKE: those that yield their value in whatever world. -/
import Derived.Test.Qxb6627778aBase
namespace Go.Proofs.Qxb6627778a
open Go.ChangeShapes Go.WideShapes Go.ChangeAt Go.RowKit

section
variable {P : Program} {md : Region.Mode} {ops : Array Oper} {Q : Exit → Act → World → Prop}

def takeFrame (ops : Array Oper) : List (Nat × Value) → Act → Act
  | [], a => a
  | (i, v) :: l, a => takeFrame ops l (a.put ((ops[i]?).bind (·.dst)) v)
def takeListed : List (Nat × Value) → Array Bool → Array Bool
  | [], s => s
  | (i, _) :: l, s => takeListed l (s.setIfInBounds i true)
def takesB (md : Region.Mode) (ops : Array Oper) : List (Nat × Value) → Array Bool → Bool
  | [], _ => true
  | (i, _) :: l, s => Region.free md ops s i && (Region.ready md ops s).contains i && takesB md ops l (s.setIfInBounds i true)
def yieldsL (P : Program) (ops : Array Oper) : List (Nat × Value) → Act → Prop
  | [], _ => True
  | (i, v) :: l, a => (∃ o, ops[i]? = some o ∧ Region.wanted o (yielded ops a.tmps) = true ∧ ∀ w, (execOp a.eval o).run P w = .ok (.value v) w) ∧ yieldsL P ops l (a.put ((ops[i]?).bind (·.dst)) v)

theorem wpAny_takes (hs : Region.noSelect ops = true) (hQ : ∀ c d v a w, Q (.panic c) (a.put d v) w → Q (.panic c) a w) : ∀ (l : List (Nat × Value)) (listed : Array Bool) (a : Act) (w : World) (n fuel : Nat), n = fuel + l.length →
    takesB md ops l listed = true → yieldsL P ops l a → wpAny P md ops Q fuel (takeListed l listed) (takeFrame ops l a) w → wpAny P md ops Q n listed a w
  | [], listed, a, w, n, fuel, hn, _, _, h => by
    rw [List.length_nil, Nat.add_zero] at hn
    subst hn
    exact h
  | (i, v) :: l, listed, a, w, n, fuel, hn, hB, hy, h => by
    obtain ⟨m, rfl⟩ : ∃ m, n = m + 1 := ⟨fuel + l.length, by rw [hn, List.length_cons]; omega⟩
    simp only [takesB, Bool.and_eq_true] at hB
    obtain ⟨⟨hf, hr⟩, hB'⟩ := hB
    obtain ⟨⟨o, ho, hw, hrun⟩, hy'⟩ := hy
    have e : (ops[i]?).bind (·.dst) = o.dst := by rw [ho]; rfl
    rw [e] at hy'
    refine wpAny_take (i := i) (v := v) ho hs hf hr (fun c a w h => hQ c _ _ a w h) (.inl ⟨hw, hrun⟩) ?_
    have h' : wpAny P md ops Q fuel (takeListed l (listed.setIfInBounds i true)) (takeFrame ops l (a.put o.dst v)) w := by
      rw [← e]; exact h
    exact wpAny_takes hs hQ l (listed.setIfInBounds i true) (a.put o.dst v) w m fuel (by rw [List.length_cons] at hn; omega) hB' hy' h'

/-- One operation whose run is known. -/
theorem wpOp_value {i : Nat} {o : Oper} {K : Act → World → Prop} {a : Act} {w w' : World} {v : Value} (ho : ops[i]? = some o) (hw : Region.wanted o (yielded ops a.tmps) = true)
    (hrun : (execOp a.eval o).run P w = .ok (.value v) w') (hk : K (a.put o.dst v) w') : wpOp P ops Q i K a w := by
  unfold wpOp
  rw [ho]
  simp only [hw, if_true]
  left
  unfold Oper.wp
  rw [hrun]
  exact hk

/-- A call of a Go function by its name. -/
theorem wpOp_call {i : Nat} {o : Oper} {K : Act → World → Prop} {a : Act} {w : World} (ho : ops[i]? = some o) (hw : Region.wanted o (yielded ops a.tmps) = true) (f : FuncId) (al : List Value) (xl : List Operand) (ats : Array TypeId)
    (hop : o.op = .call { callee := .value (.func f), args := xl.toArray, argTypes := ats }) (hargs : xl.map a.eval = al)
    (hrun : (callFunc f al.toArray).run P w = .ok (.enter f al.toArray) w) (hc : Calls P f al.toArray w fun e w' => ∃ v, e = .returned v ∧ K (a.put o.dst v) w') : wpOp P ops Q i K a w := by
  unfold wpOp
  rw [ho]
  simp only [hw, if_true]
  left
  obtain ⟨dst, op, type, pos, after, guard⟩ := o
  simp only at hop
  subst hop
  have e : #[] ++ xl.toArray.map a.eval ++ #[] = al.toArray := by rw [← hargs]; simp
  unfold Oper.wp
  rw [execOp_call_go, e, hrun]
  exact hc.mono fun e w' ⟨v, he, hk⟩ => by subst he; exact hk

theorem wpOp_if {i : Nat} {o : Oper} {K : Act → World → Prop} {a : Act} {w : World} (ho : ops[i]? = some o)
    (h : if Region.wanted o (yielded ops a.tmps) = true then o.wp P a w K Q else K (a.put o.dst undef) w) : wpOp P ops Q i K a w := by
  unfold wpOp
  rw [ho]
  simp only
  split
  · rename_i hw; rw [if_pos hw] at h; exact .inl h
  · rename_i hw; rw [if_neg hw] at h; exact h

theorem wpAny_one {i : Nat} {fuel : Nat} {listed : Array Bool} {a : Act} {w : World} (hr : Region.ready md ops listed = [i])
    (h : wpOp P ops Q i (wpAny P md ops Q fuel (listed.setIfInBounds i true)) a w) : wpAny P md ops Q (fuel + 1) listed a w :=
  wpAny_all hr (by simp) (fun j hj => by simp at hj; subst hj; exact h)

theorem wpAny_two {i j : Nat} {fuel : Nat} {listed : Array Bool} {a : Act} {w : World} (hr : Region.ready md ops listed = [i, j])
    (h : wpOp P ops Q i (wpAny P md ops Q fuel (listed.setIfInBounds i true)) a w) (h' : wpOp P ops Q j (wpAny P md ops Q fuel (listed.setIfInBounds j true)) a w) : wpAny P md ops Q (fuel + 1) listed a w :=
  wpAny_all hr (by simp) (fun k hk => by
    simp at hk
    rcases hk with rfl | rfl
    · exact h
    · exact h')
end

theorem callFunc11 (args : Array Value) (w : World) : (callFunc 11 args).run Try.prog w = .ok (.enter 11 args) w := by kernel_rfl
end Go.Proofs.Qxb6627778a
