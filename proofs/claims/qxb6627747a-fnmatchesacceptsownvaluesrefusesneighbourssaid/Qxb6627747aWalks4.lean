/- WALKS OF SEAT b6627747a, 4: matches over a nil map; ZZMatches; zzLookupModel. -/
import Derived.Test.Qxb6627747aWalks3
namespace Go.Proofs.Qxb6627747a
open Go.ChangeShapes Go.WideShapes Go.ChangeAt Go.RowKit
open Go.Maps (Keyed)

theorem wpList_range_nil (w : World) {ops : Array Oper} {rest : List Oper} {o : Oper} {a : Act} {Q : Exit → Act → World → Prop} (hg : o.guard = none) (m : Operand) (hop : o.op = Op.range 22 m) (hm : a.eval m = .map none)
    (hK : ∀ w', w'.heap[w.heap.size]? = some (.mapIter none 0 #[] 0) → Below w.heap.size w w' → wpList Try.prog ops Q rest (a.put o.dst (.pointer (some ⟨w.heap.size, 0, none⟩))) w') :
    wpList Try.prog ops Q (o :: rest) a w := by
  refine wpList_plain hg fun K hK' => ?_
  have hr := run_range_nilMap (P := Try.prog) w 22 3 25 Try.underlying22
  unfold Oper.wp
  simp [execOp, hop, hm, hr, Result.andThen]
  exact hK' _ _ (hK _ (Go.heap_alloc_new w _) ((Below.refl _ _).alloc (Nat.le_refl _) _))

theorem wpList_next_nil (w : World) {ops : Array Oper} {rest : List Oper} {o : Oper} {a : Act} {Q : Exit → Act → World → Prop} (hg : o.guard = none) (it : Operand) (hop : o.op = Op.next it false) (r : Nat)
    (hit : a.eval it = .pointer (some ⟨r, 0, none⟩)) (hh : w.heap[r]? = some (.mapIter none 0 #[] 0))
    (hK : wpList Try.prog ops Q rest (a.put o.dst (.tuple #[.bool false])) w) :
    wpList Try.prog ops Q (o :: rest) a w := by
  refine wpList_plain hg fun K hK' => ?_
  have hr : ∀ ty, (Instr.next (.pointer (some ⟨r, 0, none⟩)) false ty).run Try.prog w = .ok (.tuple #[.bool false]) w := fun ty => by
    simp only [Instr.next, getObj, Sem.run_bind, Sem.run, hh, Result.andThen]
    rfl
  unfold Oper.wp
  simp [execOp, hop, hit, hr, Result.andThen]
  exact hK' _ _ hK

set_option maxHeartbeats 1000000 in
theorem matches_nil (pm pb : Nat) (et at_ : ByteArray) (w : World)
    (hc1 : w.cell? ⟨pm, 1, none⟩ = some (.string et)) (hc2 : w.cell? ⟨pm, 2, none⟩ = some (.map none)) :
    Calls Try.prog 12 #[.pointer (some ⟨pm, 0, none⟩), .string at_, .pointer (some ⟨pb, 0, none⟩)] w fun e w' => e = .returned (.bool (et.toList == at_.toList)) ∧ Below w.heap.size w w' := by
  have hpm : pm < w.heap.size := block_lt_of_cell hc1
  cases hE : (et.toList == at_.toList)
  · go_enter Try.func12, Try.ntmps12
    go_wp2
    go_ret
    exact ⟨rfl, Below.refl _ _⟩
  · go_enter Try.func12, Try.ntmps12
    go_wp2
    go_region
    go_wp2_with (at_range; refine wpList_range_nil _ rfl _ rfl rfl ?_)
    intro w0 hh0 hb0
    have hb1 : Below w.heap.size w w0 := (((Below.refl _ _).alloc (Nat.le_refl _) _).drew).trans (hb0.mono (by omega))
    have hh1 : w0.heap[w.heap.size + 1]? = some (.mapIter none 0 #[] 0) := by
      have e : ((w.alloc (.cells #[.pointer (some ⟨pb, 136, none⟩), .pointer (some ⟨pb, 328, none⟩), .pointer (some ⟨pb, 376, none⟩), .pointer (some ⟨pb, 424, none⟩), .pointer (some ⟨pb, 472, none⟩)] 47)).drew).heap.size = w.heap.size + 1 := size_alloc _ _
      first | exact hh0 | (rw [e] at hh0; exact hh0)
    clear hh0 hb0
    try go_frame
    go_wp2
    refine wp_loop_rounds 1 ?_
    rw [rounds_succ]
    go_wp2_with (at_next; refine wpList_next_nil _ rfl _ rfl (w.heap.size + 1) rfl hh1 ?_)
    go_ret
    exact ⟨rfl, hb1⟩

set_option maxHeartbeats 1000000 in
/-- ZZMatches hands its arguments on. -/
theorem zzmatches (pm pb : Nat) (at_ : ByteArray) (res : Bool) (w : World)
    (h : Calls Try.prog 12 #[.pointer (some ⟨pm, 0, none⟩), .string at_, .pointer (some ⟨pb, 0, none⟩)] w fun e w' => e = .returned (.bool res) ∧ Below w.heap.size w w') :
    Calls Try.prog 5 #[.pointer (some ⟨pm, 0, none⟩), .string at_, .pointer (some ⟨pb, 0, none⟩)] w fun e w' => e = .returned (.bool res) ∧ Below w.heap.size w w' := by
  go_enter Try.func5, Try.ntmps5
  go_wp2_with fail
  refine h.mono ?_
  rintro e w' ⟨rfl, hb⟩
  go_wp2
  go_ret
  exact ⟨rfl, hb⟩

end Go.Proofs.Qxb6627747a
