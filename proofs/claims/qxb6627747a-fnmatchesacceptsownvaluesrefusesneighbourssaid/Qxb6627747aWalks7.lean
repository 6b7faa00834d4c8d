/- WALKS OF SEAT b6627747a, 7: the law FnMatchesAgreesWithLookupModel. -/
import Derived.Test.Qxb6627747aWalks6
namespace Go.Proofs.Qxb6627747a
open Go.ChangeShapes Go.WideShapes Go.ChangeAt Go.RowKit

/-- A region that draws its order, whose operations leave all old memory as it is: at the class 'Below'. -/
theorem wp_region_below {P : Program} {id : Nat} {Q : Exit → Act → World → Prop} {a : Act} {w : World} {l : List Oper} (hm : P.follows .mixedOrders = true) (hB : Region.lexB .any l.toArray = true)
    (h : wpQuiet P l.toArray (fun w' => Below w.heap.size w w') (fun a' => ∀ w', Below w.heap.size w w' → Q .normal a' w') l a) : (Code.region id l.toArray true).wp P Q a w :=
  wp_region_quiet (C := fun w' => Below w.heap.size w w') hm hB ((Below.refl _ _).drew) (by simpa using h)

/-- A call of a Go function by its name, in a quiet walk. -/
theorem quiet_call {P : Program} {o : Oper} {a : Act} {C : World → Prop} {K : Act → Prop} (f : FuncId) (al : List Value) (v : Value) (xl : List Operand) (ats : Array TypeId)
    (hop : o.op = .call { callee := .value (.func f), args := xl.toArray, argTypes := ats }) (hargs : xl.map a.eval = al)
    (hrun : ∀ w, (callFunc f al.toArray).run P w = .ok (.enter f al.toArray) w) (hc : ∀ w, C w → Calls P f al.toArray w fun e w' => e = .returned v ∧ C w') (hk : K (a.put o.dst v)) : o.quiet P a C K := by
  refine ⟨v, fun w hw => ?_, hk⟩
  obtain ⟨dst, op, type, pos, after, guard⟩ := o
  simp only at hop
  subst hop
  unfold Oper.quietAt
  have e : #[] ++ xl.toArray.map a.eval ++ #[] = al.toArray := by rw [← hargs]; simp
  rw [execOp_call_go, e, hrun w]
  exact ⟨rfl, hc w hw⟩

theorem run_eql_bool4 (w : World) (x y : Operand) (p q : Bool) (a : Act) (o : Oper) (ox : TypeId) (ho : o.op = .binOp .eql 4 x y ox)
    (ex : a.eval x = .bool p) (ey : a.eval y = .bool q) : (execOp a.eval o).run Try.prog w = .ok (.value (.bool (p == q))) w := by
  have h1 : (eqGuard .eql 4 x y (.bool p) (.bool q)).run Try.prog w = .ok () w := by kernel_rfl
  have h2 : (binOp .eql 4 (.bool p) (.bool q)).run Try.prog w = .ok (.bool (p == q)) w := by kernel_rfl
  unfold execOp
  simp only [ho, ex, ey, Sem.run_bind, h1, h2, Result.andThen_ok, Sem.run_pure]

theorem callFunc5 (args : Array Value) (w : World) : (callFunc 5 args).run Try.prog w = .ok (.enter 5 args) w := by kernel_rfl
theorem callFunc6 (args : Array Value) (w : World) : (callFunc 6 args).run Try.prog w = .ok (.enter 6 args) w := by kernel_rfl

theorem wpList_looklen_want {w0 : World} (w : World) {ops : Array Oper} {rest : List Oper} {o : Oper} {a : Act} {Q : Exit → Act → World → Prop} (hw : Region.wanted o (yielded ops a.tmps) = true) (m : Operand) (hop : o.op = Op.call { callee := Callee.builtin Builtin.len, args := #[m], argTypes := #[22] })
    (mv : Option Nat) (hasF : Int → Bool) (V : Int → List (List Int)) (sz : Nat) (hl : Look w0 mv hasF V sz) (hb : Below w0.heap.size w0 w) (hm : a.eval m = .map mv)
    (hK : wpList Try.prog ops Q rest (a.put o.dst (.int .i64 sz)) w) :
    wpList Try.prog ops Q (o :: rest) a w := by
  refine BigFrame.wpList_want hw fun K hK' => ?_
  have hrun := (hl w hb).2 o.type
  unfold Oper.wp
  simp [execOp, hop, resolve, invoke, builtin, hm, hrun, Result.andThen]
  exact hK' _ _ hK

set_option maxHeartbeats 2000000 in
theorem law3_walk (id et at_ : ByteArray) (mv : Option Nat) (hasF : Int → Bool) (V : Int → List (List Int)) (sz : Nat) (m rt : List Int) (res : Bool) (w : World)
    (hid : id.size ≤ maxLen) (het : et.size ≤ maxLen) (hat : at_.size ≤ maxLen) (hsz : sz ≤ maxLen)
    (hl : Look w mv hasF V sz) (hm : m.length = 48) (hrt : rt.length = 192)
    (h5 : ∀ w' pm pb, Below w.heap.size w w' → w'.cell? ⟨pm, 1, none⟩ = some (.string et) → w'.cell? ⟨pm, 2, none⟩ = some (.map mv) → (∀ r, r < 5 → w'.rangeAt pb (regOff r) (bs (regOf m rt r))) →
      Calls Try.prog 5 #[.pointer (some ⟨pm, 0, none⟩), .string at_, .pointer (some ⟨pb, 0, none⟩)] w' fun e w'' => e = .returned (.bool res) ∧ Below w'.heap.size w' w'')
    (h6 : ∀ w', Below w.heap.size w w' → Calls Try.prog 6 #[.string et, .string at_, .map mv, .agg (bs m).toArray, .agg (bs rt).toArray] w' fun e w'' => e = .returned (.bool res) ∧ Below w'.heap.size w' w'') :
    Calls Try.prog 3 #[.string id, .string et, .map mv, .string at_, .agg (bs m).toArray, .agg (bs rt).toArray] w fun e w' => e = .returned (.bool true) ∧ Below w.heap.size w w' := by
  unfold maxLen at hid het hat hsz
  have H5 : Hid _ := h5
  have H6 : Hid _ := h6
  have HL : Hid (Look w mv hasF V sz) := hl
  clear h5 h6 hl
  have hmid0 : Mid6 w ((w.alloc (.cells (bs m).toArray 23)).alloc (.cells (bs rt).toArray 24)) m rt := by
    refine ⟨((Below.refl _ _).alloc (Nat.le_refl _) _).alloc (by rw [size_alloc]; omega) _, World.rangeAt_alloc (rangeAt_new w (bs m) 23) _, ?_⟩
    have h := rangeAt_new (w.alloc (.cells (bs m).toArray 23)) (bs rt) 24
    rwa [size_alloc] at h
  by_cases c1 : 1048576 < (id.size : Int)
  · go_enter Try.func3, Try.ntmps3
    go_wp2
    go_ret
    exact ⟨rfl, hmid0.1⟩
  by_cases c2 : 1048576 < (et.size : Int)
  · go_enter Try.func3, Try.ntmps3
    go_wp2
    go_ret
    exact ⟨rfl, hmid0.1⟩
  by_cases c3 : 1048576 < (at_.size : Int)
  · go_enter Try.func3, Try.ntmps3
    go_wp2
    go_ret
    exact ⟨rfl, hmid0.1⟩
  by_cases c4 : 65536 < (sz : Int)
  · go_enter Try.func3, Try.ntmps3
    go_wp2_with (at_len; refine wpList_looklen_want _ rfl _ rfl mv hasF V sz HL.out hmid0.1 rfl ?_)
    go_ret
    exact ⟨rfl, hmid0.1⟩
  by_cases c5 : 1048576 < (id.size : Int) + et.size + at_.size + 8 * sz
  · go_enter Try.func3, Try.ntmps3
    go_wp2_with (at_len; refine wpList_looklen_want _ rfl _ rfl mv hasF V sz HL.out hmid0.1 rfl ?_)
    go_ret
    exact ⟨rfl, hmid0.1⟩
  have HM : Hid (Mid6 w ((w.alloc (.cells (bs m).toArray 23)).alloc (.cells (bs rt).toArray 24)) m rt) := hmid0
  go_enter Try.func3, Try.ntmps3
  go_wp2_with (at_len; refine wpList_looklen_want _ rfl _ rfl mv hasF V sz HL.out hmid0.1 rfl ?_)
  go_loop [13, 14] (fun t i => ∃ (k : Nat) (T : Int), k ≤ 5 ∧ i = .int .i64 k ∧ t = .int .i64 T ∧ 0 ≤ T ∧ T ≤ 1048576) (fun _ i => 5 - (intOf i).toNat)
  case atStart => exact ⟨0, _, by omega, rfl, rfl, by omega, by omega⟩
  case round =>
    obtain ⟨k, T, hk, rfl, rfl, hT0, hT1⟩ := hrel
    by_cases hlt : k < 5
    · cases hH : hasF (k : Int)
      · go_wp2_with (at_lookup; refine wpList_look _ rfl _ _ rfl mv hasF V sz HL.out HM.out.1 rfl (k : Int) rfl (by omega) (by omega) ?_)
        intro av l c
        try go_frame
        go_wp2
        go_round
        case rel => exact ⟨k + 1, T, by omega, by go_num, rfl, hT0, hT1⟩
        case measure => simp [intOf]; omega
      · go_wp2_with (at_lookup; refine wpList_look _ rfl _ _ rfl mv hasF V sz HL.out HM.out.1 rfl (k : Int) rfl (by omega) (by omega) ?_)
        intro av l c hsl
        have hlb : l ≤ 9223372036854775807 := by
          obtain ⟨a, cap, he, h1, _⟩ := hsl
          simp only [Value.slice.injEq] at he
          omega
        clear hsl
        try go_frame
        by_cases d1 : 1048576 < (l : Int)
        · go_wp2
          go_ret
          exact ⟨rfl, HM.out.1⟩
        · by_cases d2 : 1048576 < T + 48 * (l : Int)
          · go_wp2
            go_ret
            exact ⟨rfl, HM.out.1⟩
          · go_wp2
            go_round
            case rel => exact ⟨k + 1, T + 48 * (l : Int), by omega, by go_num, rfl, by omega, by omega⟩
            case measure => simp [intOf]; omega
    · go_wp2_with (first | (refine wpList_load_mid rfl 23 _ rfl w.heap.size 0 rfl (bs m) _ (World.rangeAt_alloc HM.out.2.1 _) Try.underlying23 rfl (info23l _ hm) ?_) | (refine wpList_load_mid rfl 24 _ rfl (w.heap.size + 1) 0 rfl (bs rt) _ (World.rangeAt_alloc HM.out.2.2 _) Try.underlying24 rfl (info24l _ hrt) ?_) | (refine wpList_build35 _ rfl _ _ rfl m rt hm hrt rfl rfl ?_))
      intro cs hcs1 hcs2
      try go_frame
      go_wp2
      have hM := HM.out
      have hb3 : Below w.heap.size w ((((w.alloc (.cells (bs m).toArray 23)).alloc (.cells (bs rt).toArray 24)).alloc (.cells #[.string id, .string et, .map mv] 29)).alloc (.cells cs 35)) :=
        (hM.1.alloc (by rw [size_alloc, size_alloc]; omega) _).alloc (by rw [size_alloc, size_alloc, size_alloc]; omega) _
      have hmm := World.rangeAt_alloc (World.rangeAt_alloc hM.2.1 (.cells #[.string id, .string et, .map mv] 29)) (.cells cs 35)
      have hrr := World.rangeAt_alloc (World.rangeAt_alloc hM.2.2 (.cells #[.string id, .string et, .map mv] 29)) (.cells cs 35)
      have hce : ((((w.alloc (.cells (bs m).toArray 23)).alloc (.cells (bs rt).toArray 24)).alloc (.cells #[.string id, .string et, .map mv] 29)).alloc (.cells cs 35)).cell? ⟨w.heap.size + 1 + 1, 1, none⟩ = some (.string et) := by
        rw [World.cell?_alloc_past _ _ _ (by rw [size_alloc, size_alloc, size_alloc]; omega), World.cell?_alloc_at _ _ _ _ (by rw [size_alloc, size_alloc])]
        rfl
      have hcm : ((((w.alloc (.cells (bs m).toArray 23)).alloc (.cells (bs rt).toArray 24)).alloc (.cells #[.string id, .string et, .map mv] 29)).alloc (.cells cs 35)).cell? ⟨w.heap.size + 1 + 1, 2, none⟩ = some (.map mv) := by
        rw [World.cell?_alloc_past _ _ _ (by rw [size_alloc, size_alloc, size_alloc]; omega), World.cell?_alloc_at _ _ _ _ (by rw [size_alloc, size_alloc])]
        rfl
      have hrg : ∀ r, r < 5 → ((((w.alloc (.cells (bs m).toArray 23)).alloc (.cells (bs rt).toArray 24)).alloc (.cells #[.string id, .string et, .map mv] 29)).alloc (.cells cs 35)).rangeAt (w.heap.size + 1 + 1 + 1) (regOff r) (bs (regOf m rt r)) := fun r _ => by
        have hb := heap_alloc_new (((w.alloc (.cells (bs m).toArray 23)).alloc (.cells (bs rt).toArray 24)).alloc (.cells #[.string id, .string et, .map mv] 29)) (.cells cs 35)
        rw [size_alloc, size_alloc, size_alloc] at hb
        exact regs_of_body hb m rt hcs1 hcs2 r
      have hs4 : w.heap.size + 1 + 1 + 1 < ((((w.alloc (.cells (bs m).toArray 23)).alloc (.cells (bs rt).toArray 24)).alloc (.cells #[.string id, .string et, .map mv] 29)).alloc (.cells cs 35)).heap.size := by
        rw [size_alloc, size_alloc, size_alloc, size_alloc]; omega
      clear hM HM hmid0 hcs1 hcs2
      generalize ((((w.alloc (.cells (bs m).toArray 23)).alloc (.cells (bs rt).toArray 24)).alloc (.cells #[.string id, .string et, .map mv] 29)).alloc (.cells cs 35)) = W at hb3 hmm hrr hce hcm hrg hs4 ⊢
      refine wp_region_below (by kernel_rfl) (by kernel_rfl) ?_
      go_big_quiet_step (fail)
      go_big_quiet_step (fail)
      go_big_quiet_step (fail)
      go_big_quiet_want
      refine quiet_call 5 [.pointer (some ⟨w.heap.size + 1 + 1, 0, none⟩), .string at_, .pointer (some ⟨w.heap.size + 1 + 1 + 1, 0, none⟩)] (.bool res) _ _ rfl rfl (callFunc5 _) (fun w0 hw0 => ?_) ?_
      · refine (H5.out w0 (w.heap.size + 1 + 1) (w.heap.size + 1 + 1 + 1) (hb3.trans (hw0.mono hb3.size)) ?_ ?_ ?_).mono fun e w'' ⟨he, hb⟩ => ⟨he, hw0.trans (hb.mono hw0.size)⟩
        · rw [hw0.cell (p := ⟨w.heap.size + 1 + 1, 1, none⟩) (by show w.heap.size + 1 + 1 < _; omega)]; exact hce
        · rw [hw0.cell (p := ⟨w.heap.size + 1 + 1, 2, none⟩) (by show w.heap.size + 1 + 1 < _; omega)]; exact hcm
        · intro r hr
          exact rangeAt_below (hrg r hr) hw0 hs4
      go_frame
      go_big_quiet_on
      go_big_quiet_step (fail)
      go_big_quiet_step (fail)
      go_big_quiet_step (fail)
      go_big_quiet_want
      refine quiet_load_mid 23 _ rfl w.heap.size 0 rfl (bs m) _ (fun w' hw' => rangeAt_below hmm hw' (by omega)) Try.underlying23 rfl (info23l _ hm) ?_
      go_frame
      go_big_quiet_on
      go_big_quiet_want
      refine quiet_load_mid 24 _ rfl (w.heap.size + 1) 0 rfl (bs rt) _ (fun w' hw' => rangeAt_below hrr hw' (by omega)) Try.underlying24 rfl (info24l _ hrt) ?_
      go_frame
      go_big_quiet_on
      go_big_quiet_want
      refine quiet_call 6 [.string et, .string at_, .map mv, .agg (bs m).toArray, .agg (bs rt).toArray] (.bool res) _ _ rfl rfl (callFunc6 _) (fun w0 hw0 => ?_) ?_
      · exact (H6.out w0 (hb3.trans (hw0.mono hb3.size))).mono fun e w'' ⟨he, hb⟩ => ⟨he, hw0.trans (hb.mono hw0.size)⟩
      go_frame
      go_big_quiet_on
      go_big_quiet_want
      refine quiet_of_run _ (fun w0 _ => run_eql_bool4 w0 _ _ res res _ _ _ rfl rfl rfl) ?_
      go_frame
      go_big_quiet_on
      go_big_quiet_step (fail)
      refine wpQuiet_nil ?_
      intro w' hw'
      go_wp2
      go_ret
      exact ⟨by simp, hb3.trans (hw'.mono hb3.size)⟩

end Go.Proofs.Qxb6627747a
