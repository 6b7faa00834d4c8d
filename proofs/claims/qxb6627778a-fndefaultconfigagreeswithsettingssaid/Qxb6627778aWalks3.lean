/- SEAT b6627778a, WALKS 3: setDefaults[int], setDefaults[float64]. -/
import Derived.Test.Qxb6627778aWalks2
namespace Go.Proofs.Qxb6627778a
open Go.ChangeShapes Go.WideShapes Go.ChangeAt Go.RowKit

/-- 'alloc t' at a type whose zero value is a row. -/
theorem wpList_alloc_row {P : Program} {ops : Array Oper} {rest : List Oper} {o : Oper} {a : Act} {w : World} {Q : Exit → Act → World → Prop} (hgd : o.guard = none) (t : TypeId) (ho : o.op = .alloc t)
    (zs : Array Value) (n : Nat) (hz : (P.info? t).map (fun i => (i.zero, i.size)) = some (some (.agg zs), n))
    (h : wpList P ops Q rest (a.put o.dst (.pointer (some ⟨w.heap.size, 0, none⟩))) (w.alloc (.cells zs t))) : wpList P ops Q (o :: rest) a w := by
  refine wpList_plain hgd fun K hK => ?_
  have hz1 := (zero_of_info hz).1 w
  unfold Oper.wp execOp
  simp only [ho, Instr.alloc, newVar, newRow, newObj, Sem.run_bind, hz1, Result.andThen_ok, Value.cells, Sem.run_pure]
  exact hK _ _ h

/-- A whole row stored into the block that was made last. -/
theorem wpList_store_new {P : Program} {ops : Array Oper} {rest : List Oper} {o : Oper} {a : Act} {w : World} {Q : Exit → Act → World → Prop} (hgd : o.guard = none) (t : TypeId) (x y : Operand) (ho : o.op = .store t x y)
    (c c' : Array Value) (hx : a.eval x = .pointer (some ⟨w.heap.size, 0, none⟩)) (hy : a.eval y = .agg c') (hi : (P.info? t).map (·.size) = some c'.size) (hcc : c.size = c'.size) (h1 : c'.all (·.oneCell') = true)
    (h : wpList P ops Q rest (a.put o.dst undef) (w.alloc (.cells c' t))) : wpList P ops Q (o :: rest) a (w.alloc (.cells c t)) := by
  refine wpList_plain hgd fun K hK => ?_
  have hrun := run_storeAt_new (P := P) w t c c' hi hcc h1
  unfold Oper.wp execOp
  simp only [ho, hx, hy, Sem.run_bind, hrun, Result.andThen_ok, Sem.run_pure]
  exact hK _ _ h

def applyRows (rs : List SRow) (C : Array Value) : Array Value := rs.foldl (fun C r => C.setIfInBounds r.off r.dflt) C
theorem applyRows_size (rs : List SRow) : ∀ C : Array Value, (applyRows rs C).size = C.size := by
  induction rs with
  | nil => intro C; rfl
  | cons r rs ih => intro C; show (applyRows rs (C.setIfInBounds r.off r.dflt)).size = _; rw [ih]; simp
theorem applyRows_snoc (rs : List SRow) (C : Array Value) (k : Nat) (hk : k < rs.length) : applyRows (rs.take (k + 1)) C = (applyRows (rs.take k) C).setIfInBounds rs[k].off rs[k].dflt := by
  unfold applyRows
  rw [List.take_succ_eq_append_getElem hk, List.foldl_append]
  rfl

theorem flat_row (b : Nat) : ∀ (rs : List SRow) (k : Nat) (hk : k < rs.length) (j : Nat) (v : Value), (rs[k].cells b)[j]? = some v → (flat b rs)[k * 6 + j]? = some v
  | r :: rs, 0, _, j, v, h => by
    show (r.cells b ++ flat b rs)[0 * 6 + j]? = _
    have hj : j < (r.cells b).length := (List.getElem?_eq_some_iff.1 h).1
    rw [Nat.zero_mul, Nat.zero_add, List.getElem?_append_left hj]
    exact h
  | r :: rs, k + 1, hk, j, v, h => by
    show (r.cells b ++ flat b rs)[(k + 1) * 6 + j]? = _
    have e : (r.cells b).length = 6 := rfl
    rw [List.getElem?_append_right (by rw [e]; omega), e]
    have e2 : (k + 1) * 6 + j - 6 = k * 6 + j := by omega
    rw [e2]
    exact flat_row b rs k (by simpa using hk) j v h

theorem range_row {w : World} {g b : Nat} {rs : List SRow} (h : w.rangeAt g 0 (flat b rs)) (k : Nat) (hk : k < rs.length) : w.rangeAt g (k * 6) (rs[k].cells b) := fun j v hj => by
  have := h (k * 6 + j) v (flat_row b rs k hk j v hj)
  rwa [Nat.zero_add] at this

theorem zeroI39 : (Try.prog.info? 39).map (fun i => (i.zero, i.size)) = some (some (.agg #[.string ByteArray.empty, .string ByteArray.empty, .pointer none, .int .i64 0, .int .i64 0, .int .i64 0]), 6) := by kernel_rfl
theorem zeroI42 : (Try.prog.info? 42).map (fun i => (i.zero, i.size)) = some (some (.agg #[.string ByteArray.empty, .string ByteArray.empty, .pointer none, .float .f64 0, .float .f64 0, .float .f64 0]), 6) := by kernel_rfl
theorem size39 : (Try.prog.info? 39).map (·.size) = some 6 := by kernel_rfl
theorem size42 : (Try.prog.info? 42).map (·.size) = some 6 := by kernel_rfl

theorem grown_cell {w w' : World} {r b o : Nat} (hg : w.grownBy w' (some r)) (hb : b < w.heap.size) (hne : b ≠ r) : w'.cell? ⟨b, o, none⟩ = w.cell? ⟨b, o, none⟩ :=
  World.cell?_of_block (w := w) (hg.block b hb (fun e => hne (by cases e; rfl)))

theorem grown_refl (w : World) (r : Option Nat) : w.grownBy w r := ⟨rfl, rfl, rfl, Nat.le_refl _, fun _ _ _ => rfl⟩

theorem grown_set {w wr : World} {b off : Nat} {v : Value} {C : Array Value} {t : TypeId} (h : w.grownBy wr (some b)) (hb : wr.heap[b]? = some (.cells C t (0, 0))) (o : Obj) :
    w.grownBy ((wr.setCell ⟨b, off, none⟩ v).alloc o) (some b) ∧ ((wr.setCell ⟨b, off, none⟩ v).alloc o).heap[b]? = some (.cells (C.setIfInBounds off v) t (0, 0)) := by
  have h1 : wr.grownBy (wr.setCell ⟨b, off, none⟩ v) (some b) := ⟨rfl, rfl, rfl, by simp [World.setCell], fun i hi hne => Below.heap_setCell _ _ _ _ (fun e => hne (by rw [e]))⟩
  have h2 := (h.trans h1).trans (World.grownBy_alloc _ o (some b))
  refine ⟨h2, ?_⟩
  have hlt : b < wr.heap.size := (Array.getElem?_eq_some_iff.1 hb).1
  rw [Below.heap_alloc _ _ _ (by simpa [World.setCell] using hlt)]
  exact heap_setCell_same wr b off C t v hb

set_option maxHeartbeats 2000000 in
theorem setInts (b g cap : Nat) (rs : List SRow) (C : Array Value) (t : TypeId) (w : World) (hg : w.rangeAt g 0 (flat b rs)) (hgb : g ≠ b) (hC : w.heap[b]? = some (.cells C t (0, 0))) (hn : rs.length ≤ 1000)
    (hrs : ∀ r ∈ rs, r.off < C.size ∧ r.lo.oneCell' = true ∧ r.hi.oneCell' = true ∧ ∃ d, r.dflt = .int .i64 d) :
    Calls Try.prog 9 #[.slice (some ⟨g, 0, none⟩) rs.length cap] w fun e w' => e = .returned (.tuple #[]) ∧ w.grownBy w' (some b) ∧ w'.heap[b]? = some (.cells (applyRows rs C) t (0, 0)) := by
  go_enter Try.func9, Try.ntmps9
  go_wp2
  go_loopw [6] (fun i wr => ∃ k : Nat, k ≤ rs.length ∧ i = .int .i64 k ∧ w.grownBy wr (some b) ∧ wr.heap[b]? = some (.cells (applyRows (rs.take k) C) t (0, 0))) (fun i _ => rs.length - (intOf i).toNat)
  case atStart => exact ⟨0, Nat.zero_le _, rfl, grown_refl _ _, by simpa [applyRows] using hC⟩
  case round =>
    obtain ⟨k, hk, rfl, hgr, hCk⟩ := hrel
    by_cases hlt : k < rs.length
    · have hlt' : (k : Int) < (rs.length : Int) := by omega
      obtain ⟨ho, hlo, hhi, d, hd⟩ := hrs rs[k] (List.getElem_mem _)
      have hrow := range_row hg k hlt
      have hrow' : wr.rangeAt g (k * 6) [.string rs[k].name, .string rs[k].about, .pointer (some ⟨b, rs[k].off, none⟩), .int .i64 d, rs[k].lo, rs[k].hi] := fun j v hj => by
        rw [grown_cell hgr (rangeAt_lt hrow (by simp [SRow.cells])) hgb]
        exact hrow j v (by rw [SRow.cells, hd]; exact hj)
      have hblt : b < wr.heap.size := (Array.getElem?_eq_some_iff.1 hCk).1
      have hcb : wr.cell? ⟨b, rs[k].off, none⟩ = some ((applyRows (rs.take k) C)[rs[k].off]'(by rw [applyRows_size]; exact ho)) := by
        rw [cell_of_row wr b _ _ t (0, 0) hCk, Array.getElem?_eq_getElem]
      have hfb : wr.frozen? ⟨b, rs[k].off, none⟩ = false := frozen_of_row wr b _ _ t hCk
      have hset := grown_set (off := rs[k].off) (v := .int .i64 d) hgr hCk (.cells #[.string rs[k].name, .string rs[k].about, .pointer (some ⟨b, rs[k].off, none⟩), .int .i64 d, rs[k].lo, rs[k].hi] 39)
      rw [← hd, ← applyRows_snoc rs C k hlt, hd] at hset
      have hall : (#[.string rs[k].name, .string rs[k].about, .pointer (some ⟨b, rs[k].off, none⟩), .int .i64 d, rs[k].lo, rs[k].hi] : Array Value).all (·.oneCell') = true := by
        refine all_oneCell_toArray (fun v hv => ?_)
        simp only [List.mem_cons, List.not_mem_nil, or_false] at hv
        rcases hv with rfl | rfl | rfl | rfl | rfl | rfl
        · rfl
        · rfl
        · rfl
        · rfl
        · exact hlo
        · exact hhi
      generalize (applyRows (rs.take k) C)[rs[k].off]'(by rw [applyRows_size]; exact ho) = old at hcb
      generalize rs[k].name = nm at *
      generalize rs[k].about = ab at *
      generalize rs[k].off = off at *
      generalize rs[k].lo = lo at *
      generalize rs[k].hi = hi at *
      have HSET : Hid _ := hset
      clear hset hd hrow ho hlo hhi hrs
      go_wp2_with (first | (refine wpList_load_mid rfl 39 _ rfl g (k * 6) rfl [.string nm, .string ab, .pointer (some ⟨b, off, none⟩), .int .i64 d, lo, hi] _ hrow' Try.underlying39 rfl size39 ?_) | (refine wpList_alloc_row rfl 39 rfl _ 6 zeroI39 ?_) | (refine wpList_store_new rfl 39 _ _ rfl _ #[.string nm, .string ab, .pointer (some ⟨b, off, none⟩), .int .i64 d, lo, hi] rfl rfl size39 rfl hall ?_))
      go_roundw
      case rel => exact ⟨k + 1, by omega, by go_num, HSET.out⟩
      case measure => simp [intOf]; omega
    · have hke : k = rs.length := by omega
      subst hke
      rw [List.take_length] at hCk
      have HC : Hid _ := hCk
      clear hCk
      go_wp2
      go_end0
      exact ⟨rfl, hgr, HC.out⟩

theorem run_store_float (P : Program) (w : World) (a : Addr) (m : Mode) (k : FloatKind) (n : Nat) : (store a (.float k n) m).run P w = stored P w a (.float k n) m := run_store P w a _ m rfl
attribute [local go_sem] run_store_float

set_option maxHeartbeats 2000000 in
theorem setShares (b g cap : Nat) (rs : List SRow) (C : Array Value) (t : TypeId) (w : World) (hg : w.rangeAt g 0 (flat b rs)) (hgb : g ≠ b) (hC : w.heap[b]? = some (.cells C t (0, 0))) (hn : rs.length ≤ 1000)
    (hrs : ∀ r ∈ rs, r.off < C.size ∧ r.lo.oneCell' = true ∧ r.hi.oneCell' = true ∧ ∃ d : Nat, r.dflt = .float .f64 d) :
    Calls Try.prog 10 #[.slice (some ⟨g, 0, none⟩) rs.length cap] w fun e w' => e = .returned (.tuple #[]) ∧ w.grownBy w' (some b) ∧ w'.heap[b]? = some (.cells (applyRows rs C) t (0, 0)) := by
  go_enter Try.func10, Try.ntmps10
  go_wp2
  go_loopw [6] (fun i wr => ∃ k : Nat, k ≤ rs.length ∧ i = .int .i64 k ∧ w.grownBy wr (some b) ∧ wr.heap[b]? = some (.cells (applyRows (rs.take k) C) t (0, 0))) (fun i _ => rs.length - (intOf i).toNat)
  case atStart => exact ⟨0, Nat.zero_le _, rfl, grown_refl _ _, by simpa [applyRows] using hC⟩
  case round =>
    obtain ⟨k, hk, rfl, hgr, hCk⟩ := hrel
    by_cases hlt : k < rs.length
    · have hlt' : (k : Int) < (rs.length : Int) := by omega
      obtain ⟨ho, hlo, hhi, d, hd⟩ := hrs rs[k] (List.getElem_mem _)
      have hrow := range_row hg k hlt
      have hrow' : wr.rangeAt g (k * 6) [.string rs[k].name, .string rs[k].about, .pointer (some ⟨b, rs[k].off, none⟩), .float .f64 d, rs[k].lo, rs[k].hi] := fun j v hj => by
        rw [grown_cell hgr (rangeAt_lt hrow (by simp [SRow.cells])) hgb]
        exact hrow j v (by rw [SRow.cells, hd]; exact hj)
      have hblt : b < wr.heap.size := (Array.getElem?_eq_some_iff.1 hCk).1
      have hcb : wr.cell? ⟨b, rs[k].off, none⟩ = some ((applyRows (rs.take k) C)[rs[k].off]'(by rw [applyRows_size]; exact ho)) := by
        rw [cell_of_row wr b _ _ t (0, 0) hCk, Array.getElem?_eq_getElem]
      have hfb : wr.frozen? ⟨b, rs[k].off, none⟩ = false := frozen_of_row wr b _ _ t hCk
      have hset := grown_set (off := rs[k].off) (v := .float .f64 d) hgr hCk (.cells #[.string rs[k].name, .string rs[k].about, .pointer (some ⟨b, rs[k].off, none⟩), .float .f64 d, rs[k].lo, rs[k].hi] 42)
      rw [← hd, ← applyRows_snoc rs C k hlt, hd] at hset
      have hall : (#[.string rs[k].name, .string rs[k].about, .pointer (some ⟨b, rs[k].off, none⟩), .float .f64 d, rs[k].lo, rs[k].hi] : Array Value).all (·.oneCell') = true := by
        refine all_oneCell_toArray (fun v hv => ?_)
        simp only [List.mem_cons, List.not_mem_nil, or_false] at hv
        rcases hv with rfl | rfl | rfl | rfl | rfl | rfl
        · rfl
        · rfl
        · rfl
        · rfl
        · exact hlo
        · exact hhi
      generalize (applyRows (rs.take k) C)[rs[k].off]'(by rw [applyRows_size]; exact ho) = old at hcb
      generalize rs[k].name = nm at *
      generalize rs[k].about = ab at *
      generalize rs[k].off = off at *
      generalize rs[k].lo = lo at *
      generalize rs[k].hi = hi at *
      have HSET : Hid _ := hset
      clear hset hd hrow ho hlo hhi hrs
      go_wp2_with (first | (refine wpList_load_mid rfl 42 _ rfl g (k * 6) rfl [.string nm, .string ab, .pointer (some ⟨b, off, none⟩), .float .f64 d, lo, hi] _ hrow' Try.underlying42 rfl size42 ?_) | (refine wpList_alloc_row rfl 42 rfl _ 6 zeroI42 ?_) | (refine wpList_store_new rfl 42 _ _ rfl _ #[.string nm, .string ab, .pointer (some ⟨b, off, none⟩), .float .f64 d, lo, hi] rfl rfl size42 rfl hall ?_))
      go_roundw
      case rel => exact ⟨k + 1, by omega, by go_num, HSET.out⟩
      case measure => simp [intOf]; omega
    · have hke : k = rs.length := by omega
      subst hke
      rw [List.take_length] at hCk
      have HC : Hid _ := hCk
      clear hCk
      go_wp2
      go_end0
      exact ⟨rfl, hgr, HC.out⟩

end Go.Proofs.Qxb6627778a
