/- WALKS OF SEAT b6627747a, 2: zzRegister. -/
import Derived.Test.Qxb6627747aWalks1
namespace Go.Proofs.Qxb6627747a
open Go.ChangeShapes Go.WideShapes Go.ChangeAt Go.RowKit

def zeros48 : Array Value := (bs (List.replicate 48 0)).toArray
theorem zero23 : (Try.prog.info? 23).map (fun i => (i.zero, i.size)) = some (some (.agg zeros48), 48) := by kernel_rfl
theorem zeros48_size : zeros48.size = 48 := by kernel_rfl

/-- 'alloc t' at a type whose zero value is a row. -/
theorem wpList_alloc_row {P : Program} {ops : Array Oper} {rest : List Oper} {o : Oper} {a : Act} {w : World} {Q : Exit → Act → World → Prop} (hgd : o.guard = none) (t : TypeId) (ho : o.op = .alloc t)
    (zs : Array Value) (n : Nat) (hz : (P.info? t).map (fun i => (i.zero, i.size)) = some (some (.agg zs), n))
    (h : wpList P ops Q rest (a.put o.dst (.pointer (some ⟨w.heap.size, 0, none⟩))) (w.alloc (.cells zs t))) : wpList P ops Q (o :: rest) a w := by
  refine wpList_plain hgd fun K hK => ?_
  have hz1 := (zero_of_info hz).1 w
  unfold Oper.wp execOp
  simp only [ho, Instr.alloc, newVar, newRow, newObj, Sem.run_bind, hz1, Result.andThen_ok, Value.cells, Sem.run_pure]
  exact hK _ _ h

/-- The register number r of a report. -/
def regOf (m rt : List Int) (r : Nat) : List Int := if r = 0 then m else (rt.drop ((r - 1) * 48)).take 48
theorem regOf_length (m rt : List Int) (r : Nat) (hm : m.length = 48) (hrt : rt.length = 192) (hr : r < 5) : (regOf m rt r).length = 48 := by
  unfold regOf
  split
  · exact hm
  · simp; omega

theorem there_new (w : World) (cs : Array Value) (t : TypeId) : (w.alloc (.cells cs t)).there w.heap.size 0 cs.size := fun j hj => by
  have hh := heap_alloc_new w (.cells cs t)
  refine ⟨?_, frozen_of_row _ _ _ cs t hh⟩
  rw [cell_of_row _ _ _ cs t (0, 0) hh]
  simp [hj]

theorem bs_oneCell (x : List Int) : (bs x).toArray.all (·.oneCell') = true :=
  all_oneCell_toArray (fun v hv => by simp only [bs, List.mem_map] at hv; obtain ⟨n, _, rfl⟩ := hv; rfl)

theorem rangeAt_sub {w : World} {b o : Nat} {x : List Int} (h : w.rangeAt b o (bs x)) (k n : Nat) : w.rangeAt b (o + k) (bs ((x.drop k).take n)) := fun j v hv => by
  have h2 := h (k + j) v (by
    simp only [bs, List.getElem?_map] at hv ⊢
    rw [List.getElem?_take] at hv
    split at hv
    · rwa [List.getElem?_drop] at hv
    · cases hv)
  rw [← h2]; congr 2; omega

theorem info23a (x : List Int) (h : x.length = 48) : (Try.prog.info? 23).map (·.size) = some (bs x).toArray.size := by
  rw [List.size_toArray, bs_length, h]; exact info23
theorem info23l (x : List Int) (h : x.length = 48) : (Try.prog.info? 23).map (·.size) = some (bs x).length := by
  rw [bs_length, h]; exact info23

theorem size_alloc (w : World) (o : Obj) : (w.alloc o).heap.size = w.heap.size + 1 := by
  show (w.heap.push o).size = _
  simp

theorem reg_range0 (w : World) (m rt : List Int) : (((w.alloc (.cells (bs m).toArray 23)).alloc (.cells (bs rt).toArray 24)).alloc (.cells zeros48 23)).rangeAt w.heap.size 0 (bs m) :=
  World.rangeAt_alloc (World.rangeAt_alloc (rangeAt_new w (bs m) 23) _) _
theorem reg_range1 (w : World) (m rt : List Int) (r : Nat) (h1 : 1 ≤ r) : (((w.alloc (.cells (bs m).toArray 23)).alloc (.cells (bs rt).toArray 24)).alloc (.cells zeros48 23)).rangeAt (w.heap.size + 1) ((r - 1) * 48) (bs (regOf m rt r)) := by
  have h := World.rangeAt_alloc (rangeAt_new (w.alloc (.cells (bs m).toArray 23)) (bs rt) 24) (.cells zeros48 23)
  rw [size_alloc] at h
  have h2 := rangeAt_sub h ((r - 1) * 48) 48
  rw [Nat.zero_add] at h2
  unfold regOf
  rw [if_neg (by omega)]
  exact h2
theorem reg_there (w : World) (m rt : List Int) (x : List Int) (hx : x.length = 48) : (((w.alloc (.cells (bs m).toArray 23)).alloc (.cells (bs rt).toArray 24)).alloc (.cells zeros48 23)).there (w.heap.size + 1 + 1) 0 (bs x).toArray.size := by
  have h := there_new ((w.alloc (.cells (bs m).toArray 23)).alloc (.cells (bs rt).toArray 24)) zeros48 23
  rw [size_alloc, size_alloc, zeros48_size] at h
  have e : (bs x).toArray.size = 48 := by simp [bs_length, hx]
  rw [e]
  exact h

theorem below_setCells {B : Nat} {a w : World} (h : Below B a w) (b : Nat) (hb : B ≤ b) (cs : List Value) : ∀ o, Below B a (w.setCells b o cs) := by
  induction cs generalizing w with
  | nil => intro o; exact h
  | cons v r ih => intro o; rw [World.setCells]; exact ih (h.setCell (p := ⟨b, o, none⟩) hb v) _

theorem reg_post (w : World) (m rt x : List Int) (hx : x.length = 48) (tmps : Array Value) (ht : tmps.getD 6 undef = .pointer (some ⟨w.heap.size + 1 + 1, 0, none⟩)) :
    bodyPost Try.prog Try.f11 (fun e w' => e = .returned (.agg (bs x).toArray) ∧ Below w.heap.size w w') .ret { tmps, defers := [] }
      ((((w.alloc (.cells (bs m).toArray 23)).alloc (.cells (bs rt).toArray 24)).alloc (.cells zeros48 23)).setCells (w.heap.size + 1 + 1) 0 (bs x).toArray.toList) := by
  have hth := reg_there w m rt x hx
  have hrg := World.rangeAt_setCells_same _ _ _ (bs x) (by simpa using hth)
  have hl := run_loadVar_mid (P := Try.prog) _ _ _ 23 (bs x) _ hrg Try.underlying23 rfl (info23l x hx)
  refine bodyPost_ret (v := .agg (bs x).toArray) ?_ rfl ⟨rfl, ?_⟩
  · have ht' : tmps[6]?.getD undef = .pointer (some ⟨w.heap.size + 1 + 1, 0, none⟩) := by simpa using ht
    simp [results, Try.results11, ht', asAddr, hl]
  · refine below_setCells ?_ _ (by omega) _ 0
    exact (((Below.refl _ _).alloc (Nat.le_refl _) _).alloc (by rw [size_alloc]; omega) _).alloc (by rw [size_alloc, size_alloc]; omega) _

set_option maxHeartbeats 1000000 in
theorem register_any (r : Nat) (m rt : List Int) (w : World) (hr : r < 5) (hm : m.length = 48) (hrt : rt.length = 192) :
    Calls Try.prog 11 #[.int .i64 r, .agg (bs m).toArray, .agg (bs rt).toArray] w fun e w' => e = .returned (.agg (bs (regOf m rt r)).toArray) ∧ Below w.heap.size w w' := by
  by_cases h0 : r = 0
  · subst h0
    go_enter Try.func11, Try.ntmps11
    go_wp2_with (first | (refine wpList_alloc_row rfl 23 rfl zeros48 48 zero23 ?_) | (refine wpList_load_mid rfl 23 _ rfl _ _ rfl (bs m) _ (reg_range0 w m rt) Try.underlying23 rfl (info23l m hm) ?_) | (refine wpList_store_mid rfl 23 _ _ rfl _ _ (bs m).toArray rfl rfl (reg_there w m rt m hm) (info23a m hm) (bs_oneCell m) ?_))
    exact reg_post w m rt m hm _ rfl
  · have h1 : 1 ≤ r := by omega
    have hne : ((r : Int) == 0) = false := by simp; omega
    have hlen : (regOf m rt r).length = 48 := regOf_length m rt r hm hrt hr
    have e1 : ((r : Int) - 1).toNat = r - 1 := by omega
    go_enter Try.func11, Try.ntmps11
    go_wp2_with (first | (refine wpList_alloc_row rfl 23 rfl zeros48 48 zero23 ?_) | (refine wpList_load_mid rfl 23 _ rfl _ _ rfl (bs (regOf m rt r)) _ (reg_range1 w m rt r h1) Try.underlying23 rfl (info23l _ hlen) ?_) | (refine wpList_store_mid rfl 23 _ _ rfl _ _ (bs (regOf m rt r)).toArray rfl rfl (reg_there w m rt _ hlen) (info23a _ hlen) (bs_oneCell _) ?_))
    exact reg_post w m rt _ hlen _ rfl

end Go.Proofs.Qxb6627747a
