/- BASE OF SEAT b6627747a: arrays of bytes by value, their laws at the operations. -/
import Derived.Test.Qxb6627747aRows
import Derived.WalkKit
import Derived.ProofKit
import Derived.OpenShut
import Derived.WalkSpells
import Derived.WalkLawsBesides
import Derived.Deep.MidRow
import Derived.Deep.WholeRow
import Derived.Deep.QuietTactic
import Derived.BigQuiet
import Derived.Maps.RangeWalk
namespace Go.Proofs.Qxb6627747a
open Go.ChangeShapes Go.WideShapes Go.ChangeAt Go.RowKit

theorem own : ownKnob Try.prog.godebug = none := by kernel_rfl

theorem info23 : (Try.prog.info? 23).map (·.size) = some 48 := by kernel_rfl
theorem info24 : (Try.prog.info? 24).map (·.size) = some 192 := by kernel_rfl
theorem info35 : (Try.prog.info? 35).map (·.size) = some 648 := by kernel_rfl

/-- The cells of an array of bytes. -/
def bs (x : List Int) : List Value := x.map (.int .u8)
theorem bs_length (x : List Int) : (bs x).length = x.length := by simp [bs]
theorem bs_inj {x y : List Int} (h : bs x = bs y) : x = y := by
  induction x generalizing y with
  | nil => cases y with
    | nil => rfl
    | cons b y => simp [bs] at h
  | cons a x ih => cases y with
    | nil => simp [bs] at h
    | cons b y =>
      simp only [bs, List.map_cons, List.cons.injEq, Value.int.injEq, true_and] at h
      rw [h.1, ih h.2]

/-- An operation of a quiet walk, by what its run yields in every world of the class. -/
theorem quiet_of_run {P : Program} {o : Oper} {a : Act} {C : World → Prop} {K : Act → Prop} (v : Value)
    (h : ∀ w, C w → (execOp a.eval o).run P w = .ok (.value v) w) (hk : K (a.put o.dst v)) : o.quiet P a C K :=
  ⟨v, fun w hw => by unfold Oper.quietAt; rw [h w hw]; exact ⟨rfl, rfl⟩, hk⟩

theorem quiet_load_mid {P : Program} {o : Oper} {a : Act} {C : World → Prop} {K : Act → Prop} (ty : TypeId) (x : Operand) (ho : o.op = .load ty x)
    (b off : Nat) (hx : a.eval x = .pointer (some ⟨b, off, none⟩)) (cs : List Value) (d : TypeDesc) (hc : ∀ w, C w → w.rangeAt b off cs)
    (hu : P.underlying ty = some d) (hd : d.isRow = true) (hi : (P.info? ty).map (·.size) = some cs.length)
    (h : K (a.put o.dst (.agg cs.toArray))) : o.quiet P a C K := by
  refine quiet_of_run (.agg cs.toArray) (fun w hw => ?_) h
  unfold execOp
  simp only [ho, hx, Instr.loadAt, Instr.sureAddr, Sem.run_bind, Sem.run_pure, Result.andThen_ok, run_loadVar_mid w b off ty cs d (hc w hw) hu hd hi]

/-! ### '==' on arrays of bytes -/
theorem part_int {P : Program} (w : World) (e : TypeId) (k : IntKind) (he : P.underlying e = some (.int k)) (cs : Array Value) (j : Nat) (v : Value) (hv : cs[j]? = some v) :
    (part e cs j).run P w = .ok v w := by
  have ha : (isAgg e).run P w = .ok false w := by
    unfold isAgg
    rw [Sem.run_bind, run_underlying he w]
    rfl
  simp [part, Sem.run_bind, ha, hv]

theorem eq_loop {P : Program} (w : World) (d : Nat) (e : TypeId) (k : IntKind) (he : P.underlying e = some (.int k)) (xs ys : List Int) :
    ∀ (n i : Nat), i + n = xs.length → xs.length = ys.length →
    (forIn (m := Sem) (List.range' i n) (none (α := Bool), PUnit.unit) (fun i _ => do
        let r ← Op.equalIn (d + 1) e (← part e ((xs.map (Value.int k)).toArray) (i * 1)) (← part e ((ys.map (Value.int k)).toArray) (i * 1))
        if (!r) = true then pure (ForInStep.done (some false, PUnit.unit)) else pure (ForInStep.yield (none, PUnit.unit)))).run P w =
      .ok (if xs.drop i = ys.drop i then (none, PUnit.unit) else (some false, PUnit.unit)) w := by
  intro n
  induction n with
  | zero =>
    intro i hi hl
    have h1 : xs.drop i = [] := List.drop_eq_nil_of_le (by omega)
    have h2 : ys.drop i = [] := List.drop_eq_nil_of_le (by omega)
    simp [h1, h2]
  | succ n ih =>
    intro i hi hl
    have hx : i < xs.length := by omega
    have hy : i < ys.length := by omega
    have e1 : xs.drop i = xs[i] :: xs.drop (i + 1) := List.drop_eq_getElem_cons hx
    have e2 : ys.drop i = ys[i] :: ys.drop (i + 1) := List.drop_eq_getElem_cons hy
    have p1 := part_int w e k he (xs.map (Value.int k)).toArray (i * 1) (.int k xs[i]) (by simp [hx])
    have p2 := part_int w e k he (ys.map (Value.int k)).toArray (i * 1) (.int k ys[i]) (by simp [hy])
    rw [List.range'_succ, List.forIn_cons]
    simp only [Sem.run_bind, p1, p2, Result.andThen_ok, run_equalIn_int w d e k k xs[i] ys[i] he]
    by_cases hxy : xs[i] = ys[i]
    · have hb : (xs[i] == ys[i]) = true := by simp [hxy]
      have hq : (xs.drop i = ys.drop i) = (xs.drop (i + 1) = ys.drop (i + 1)) := by
        rw [e1, e2, hxy]
        simp only [List.cons.injEq, true_and]
      simp only [hb, Bool.not_true, Bool.false_eq_true, if_false, Sem.run_pure, Result.andThen_ok]
      rw [ih (i + 1) (by omega) hl]
      simp only [hq]
    · have hb : (xs[i] == ys[i]) = false := by simp [hxy]
      have hq : ¬ (xs.drop i = ys.drop i) := by
        rw [e1, e2]
        intro h
        exact hxy (List.cons.inj h).1
      simp only [hb, Bool.not_false, if_true, Sem.run_pure, Result.andThen_ok, hq, if_false]

/-- '==' on two arrays of integers of one kind. -/
theorem run_equalIn_array {P : Program} (w : World) (d : Nat) (t e : TypeId) (k : IntKind) (n : Nat) (ht : P.underlying t = some (.array n e)) (he : P.underlying e = some (.int k))
    (hs : (P.info? e).map (·.size) = some 1) (xs ys : List Int) (hx : xs.length = n) (hy : ys.length = n) :
    (Op.equalIn (d + 2) t (.agg (xs.map (Value.int k)).toArray) (.agg (ys.map (Value.int k)).toArray)).run P w = .ok (xs == ys) w := by
  cases hq : P.info? e with
  | none => simp [hq] at hs
  | some i =>
    have hsz : i.size = 1 := by simpa [hq] using hs
    have hl := eq_loop w d e k he xs ys n 0 (by omega) (by omega)
    rw [Op.equalIn]
    simp only [Sem.run_bind, run_underlying ht, Result.andThen_ok]
    have hso : (sizeOf e).run P w = .ok 1 w := by simp [sizeOf, typeInfo, hq, hsz]
    simp only [hso, Result.andThen_ok, Std.Legacy.Range.forIn_eq_forIn_range']
    have hz : [:n].size = n := by simp [Std.Legacy.Range.size]
    rw [hz, hl]
    by_cases hxy : xs = ys
    · have hb : (xs == ys) = true := by simp [hxy]
      simp [hxy]
    · have hb : (xs == ys) = false := by simp [hxy]
      simp only [List.drop_zero, hxy, if_false, Result.andThen_ok, Sem.run_pure, hb]

theorem run_eql_bytes (w : World) (x y : Operand) (xs ys : List Int) (hx : xs.length = 48) (hy : ys.length = 48) (a : Act) (o : Oper) (ox : TypeId) (ho : o.op = .binOp .eql 23 x y ox)
    (ex : a.eval x = .agg (bs xs).toArray) (ey : a.eval y = .agg (bs ys).toArray) : (execOp a.eval o).run Try.prog w = .ok (.value (.bool (xs == ys))) w := by
  have h1 := run_equalIn_array (P := Try.prog) w 9998 23 5 .u8 48 Try.underlying23 Try.underlying5 (by kernel_rfl) xs ys hx hy
  have h2 := run_eqGuard_agg (P := Try.prog) w .eql 23 x y (bs xs).toArray (bs ys).toArray (by kernel_rfl)
  unfold execOp
  simp only [ho, ex, ey, Sem.run_bind, h2, Result.andThen_ok, run_eql_struct]
  unfold bs
  simp only [h1, Result.andThen_ok, Sem.run_pure]

theorem quiet_eql_bytes {o : Oper} {a : Act} {C : World → Prop} {K : Act → Prop} (x y : Operand) (ox : TypeId) (ho : o.op = .binOp .eql 23 x y ox) (xs ys : List Int)
    (ex : a.eval x = .agg (bs xs).toArray) (ey : a.eval y = .agg (bs ys).toArray) (hx : xs.length = 48) (hy : ys.length = 48) (h : K (a.put o.dst (.bool (xs == ys)))) : o.quiet Try.prog a C K :=
  quiet_of_run _ (fun w _ => run_eql_bytes w x y xs ys hx hy a o ox ho ex ey) h

/-! ### A slice of arrays of bytes, as it lies in a world -/
def SliceAt (w : World) (v : Value) (vals : List (List Int)) : Prop :=
  ∃ a cap, v = .slice a vals.length cap ∧ vals.length ≤ 9223372036854775807 ∧ (∀ x ∈ vals, x.length = 48) ∧
    (0 < vals.length → ∃ b off, a = some ⟨b, off, none⟩ ∧ ∀ j x, vals[j]? = some x → w.rangeAt b (off + j * 48) (bs x))

end Go.Proofs.Qxb6627747a
