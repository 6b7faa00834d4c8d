/- WALKS OF SEAT b6627747a, 1: zzHolds. -/
import Derived.Test.Qxb6627747aBase
namespace Go.Proofs.Qxb6627747a
open Go.ChangeShapes Go.WideShapes Go.ChangeAt Go.RowKit

theorem rangeAt_below {w w' : World} {B b o : Nat} {cs : List Value} (h : w.rangeAt b o cs) (hb : Below B w w') (hB : b < B) : w'.rangeAt b o cs :=
  fun j v hj => by rw [hb.cell (p := ⟨b, o + j, none⟩) hB]; exact h j v hj

theorem below_drewN {B : Nat} {a w : World} (h : Below B a w) (n : Nat) : Below B a (w.drewN n) := ⟨h.os, h.tape, h.output, h.size, h.block⟩

theorem rangeAt_new (w : World) (cs : List Value) (t : TypeId) : (w.alloc (.cells cs.toArray t)).rangeAt w.heap.size 0 cs := fun j v hj => by
  rw [cell_of_row _ _ _ cs.toArray t (0, 0) (heap_alloc_new w _)]
  simpa using hj

theorem rangeAt_lt {w : World} {b o : Nat} {cs : List Value} (h : w.rangeAt b o cs) (hc : 0 < cs.length) : b < w.heap.size :=
  block_lt_of_cell (h 0 cs[0] (List.getElem?_eq_getElem hc))

theorem contains_snoc (vals : List (List Int)) (x : List Int) (k : Nat) (h : k < vals.length) : (vals.take (k + 1)).contains x = ((vals.take k).contains x || (vals[k] == x)) := by
  rw [List.take_succ_eq_append_getElem h, List.contains_eq_any_beq, List.any_append, ← List.contains_eq_any_beq]
  have : (x == vals[k]) = (vals[k] == x) := BEq.comm
  simp only [List.any_cons, List.any_nil, Bool.or_false, this]

/-! ### zzHolds -/
set_option maxHeartbeats 1000000 in
theorem holds_any (v : Value) (vals : List (List Int)) (x : List Int) (w : World) (hv : SliceAt w v vals) (hx : x.length = 48) :
    Calls Try.prog 10 #[v, .agg (bs x).toArray] w fun e w' => e = .returned (.bool (vals.contains x)) ∧ Below w.heap.size w w' := by
  obtain ⟨a, cap, rfl, hmax, h48, hcells⟩ := hv
  have hbl : ∀ n, Below w.heap.size w ((w.alloc (.cells (bs x).toArray 23)).drewN n) := fun n => below_drewN ((Below.refl _ _).alloc (Nat.le_refl _) _) n
  have hx0 : ∀ n, ((w.alloc (.cells (bs x).toArray 23)).drewN n).rangeAt w.heap.size 0 (bs x) := fun n j v hj => rangeAt_new w (bs x) 23 j v hj
  go_enter Try.func10, Try.ntmps10
  go_wp2
  go_loopw [5] (fun i wr => ∃ k nd : Nat, k ≤ vals.length ∧ i = .int .i64 k ∧ wr = (w.alloc (.cells (bs x).toArray 23)).drewN nd ∧ (vals.take k).contains x = false) (fun i _ => vals.length - (intOf i).toNat)
  case atStart => exact ⟨0, 0, Nat.zero_le _, rfl, rfl, by simp⟩
  case round =>
    obtain ⟨k, nd, hk, rfl, rfl, hno⟩ := hrel
    by_cases hlt : k < vals.length
    · obtain ⟨b, off, rfl, hr⟩ := hcells (by omega)
      have hlt' : (k : Int) < (vals.length : Int) := by omega
      have hk48 : vals[k].length = 48 := h48 _ (List.getElem_mem _)
      have hrk : ∀ n, ((w.alloc (.cells (bs x).toArray 23)).drewN n).rangeAt b (off + k * 48) (bs vals[k]) := fun n => by
        have h1 := hr k vals[k] (List.getElem?_eq_getElem hlt)
        exact rangeAt_below h1 (hbl n) (rangeAt_lt h1 (by rw [bs_length, hk48]; omega))
      have HN : Hid ((vals.take (k + 1)).contains x = (vals[k] == x)) := by
        have := contains_snoc vals x k hlt
        rw [hno, Bool.false_or] at this
        exact this
      clear hno hcells
      go_wp2
      refine wp_region_quiet_lit (by kernel_rfl) (by kernel_rfl) ?_
      go_big_quiet_step (fail)
      go_big_quiet_step (fail)
      go_big_quiet_step (fail)
      go_big_quiet_want
      refine quiet_load_mid 23 _ rfl b (off + k * 48) rfl (bs vals[k]) _ (fun w' hw' => by obtain ⟨n, rfl⟩ := hw'; rw [World.drewN_drewN]; exact hrk _) Try.underlying23 rfl (by rw [bs_length, hk48]; exact info23) ?_
      go_frame
      go_big_quiet_on
      go_big_quiet_want
      refine quiet_load_mid 23 _ rfl w.heap.size 0 rfl (bs x) _ (fun w' hw' => by obtain ⟨n, rfl⟩ := hw'; rw [World.drewN_drewN]; exact hx0 _) Try.underlying23 rfl (by rw [bs_length, hx]; exact info23) ?_
      go_frame
      go_big_quiet_on
      go_big_quiet_want
      refine quiet_eql_bytes _ _ _ rfl vals[k] x rfl rfl hk48 hx ?_
      go_frame
      go_big_quiet_on
      refine wpQuiet_nil ?_
      intro _ hw'
      obtain ⟨nq, hw''⟩ := hw'
      subst hw''
      cases hE : (vals[k] == x)
      · go_wp2
        go_roundw
        case rel => exact ⟨k + 1, nd + nq, by omega, by go_num, rfl, by rw [HN.out]; exact hE⟩
        case measure => simp [intOf]; omega
      · go_wp2
        go_ret
        refine ⟨?_, ?_⟩
        · have h1 : (vals.take (k + 1)).contains x = true := by rw [HN.out]; exact hE
          have h2 : vals.contains x = true := by
            simp only [List.contains_iff_mem] at h1 ⊢
            exact List.mem_of_mem_take h1
          rw [h2]; rfl
        · exact below_drewN (hbl _) _
    · have hkl : k = vals.length := by omega
      have HN : Hid (vals.contains x = false) := by
        rw [hkl, List.take_length] at hno; exact hno
      clear hno hcells
      go_wp2
      go_ret
      exact ⟨by rw [HN.out]; rfl, hbl _⟩

end Go.Proofs.Qxb6627747a
