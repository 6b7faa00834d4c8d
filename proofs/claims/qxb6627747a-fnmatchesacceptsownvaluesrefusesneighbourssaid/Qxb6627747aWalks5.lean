/- WALKS OF SEAT b6627747a, 5: zzLookupModel. -/
import Derived.Test.Qxb6627747aWalks4
import Derived.Maps.OwnOps
namespace Go.Proofs.Qxb6627747a
open Go.ChangeShapes Go.WideShapes Go.ChangeAt Go.RowKit
open Go.Maps (Keyed)

/-- What the map answers, in every world that has grown out of w. -/
def Look (w : World) (mv : Option Nat) (hasF : Int → Bool) (V : Int → List (List Int)) (sz : Nat) : Prop :=
  ∀ w', Below w.heap.size w w' →
    (∀ k : Int, 0 ≤ k → k < 5 → ∃ a l c, (Instr.lookup 22 (.map mv) (.int .i64 k) true).run Try.prog w' = .ok (.tuple #[.slice a l c, .bool (hasF k)]) w' ∧ (hasF k = true → SliceAt w' (.slice a l c) (V k))) ∧
    ∀ ty, (Builtin.len_ #[22] ty #[.map mv]).run Try.prog w' = .ok (.int .i64 sz) w'

theorem Look.below {w w1 : World} {mv : Option Nat} {hasF : Int → Bool} {V : Int → List (List Int)} {sz : Nat} (h : Look w mv hasF V sz) (hb : Below w.heap.size w w1) : Look w1 mv hasF V sz :=
  fun w' hb' => h w' (hb.trans (hb'.mono hb.size))

theorem wpList_look {w0 : World} (w : World) {ops : Array Oper} {rest : List Oper} {o : Oper} {a : Act} {Q : Exit → Act → World → Prop} (hg : o.guard = none) (m x : Operand) (hop : o.op = Op.lookup 22 m x true)
    (mv : Option Nat) (hasF : Int → Bool) (V : Int → List (List Int)) (sz : Nat) (hl : Look w0 mv hasF V sz) (hb : Below w0.heap.size w0 w) (hm : a.eval m = .map mv) (k : Int) (hx : a.eval x = .int .i64 k) (h0 : 0 ≤ k) (h5 : k < 5)
    (hK : ∀ av l c, (hasF k = true → SliceAt w (.slice av l c) (V k)) → wpList Try.prog ops Q rest (a.put o.dst (.tuple #[.slice av l c, .bool (hasF k)])) w) :
    wpList Try.prog ops Q (o :: rest) a w := by
  refine wpList_plain hg fun K hK' => ?_
  obtain ⟨av, l, c, hrun, hv⟩ := (hl w hb).1 k h0 h5
  unfold Oper.wp
  simp [execOp, hop, hm, hx, hrun, Result.andThen]
  exact hK' _ _ (hK av l c hv)

theorem wpList_looklen {w0 : World} (w : World) {ops : Array Oper} {rest : List Oper} {o : Oper} {a : Act} {Q : Exit → Act → World → Prop} (hg : o.guard = none) (m : Operand) (hop : o.op = Op.call { callee := Callee.builtin Builtin.len, args := #[m], argTypes := #[22] })
    (mv : Option Nat) (hasF : Int → Bool) (V : Int → List (List Int)) (sz : Nat) (hl : Look w0 mv hasF V sz) (hb : Below w0.heap.size w0 w) (hm : a.eval m = .map mv)
    (hK : wpList Try.prog ops Q rest (a.put o.dst (.int .i64 sz)) w) :
    wpList Try.prog ops Q (o :: rest) a w := by
  refine wpList_plain hg fun K hK' => ?_
  have hrun := (hl w hb).2 o.type
  unfold Oper.wp
  simp [execOp, hop, resolve, invoke, builtin, hm, hrun, Result.andThen]
  exact hK' _ _ hK

def cntH (hasF : Int → Bool) (k : Nat) : Nat := ((List.range k).filter (fun r : Nat => hasF (r : Int))).length
theorem cntH_zero (hasF : Int → Bool) : cntH hasF 0 = 0 := rfl
theorem cntH_succ (hasF : Int → Bool) (k : Nat) : cntH hasF (k + 1) = cntH hasF k + (if hasF (k : Int) then 1 else 0) := by
  unfold cntH
  rw [List.range_succ, List.filter_append, List.length_append]
  cases h : hasF (k : Int) <;> simp [h]
theorem cntH_le (hasF : Int → Bool) (k : Nat) : cntH hasF k ≤ k := by
  have := List.length_filter_le (fun r : Nat => hasF (r : Int)) (List.range k)
  simpa [cntH] using this

/-- What the loop knows of the world. -/
def Mid6 (w wr : World) (m rt : List Int) : Prop := Below w.heap.size w wr ∧ wr.rangeAt w.heap.size 0 (bs m) ∧ wr.rangeAt (w.heap.size + 1) 0 (bs rt)

theorem Mid6.below {w wr w' : World} {m rt : List Int} (h : Mid6 w wr m rt) (hm : m.length = 48) (hrt : rt.length = 192) (hb : Below wr.heap.size wr w') : Mid6 w w' m rt :=
  ⟨h.1.trans (hb.mono h.1.size), rangeAt_below h.2.1 hb (rangeAt_lt h.2.1 (by rw [bs_length]; omega)), rangeAt_below h.2.2 hb (rangeAt_lt h.2.2 (by rw [bs_length]; omega))⟩

theorem info24l (x : List Int) (h : x.length = 192) : (Try.prog.info? 24).map (·.size) = some (bs x).length := by
  rw [bs_length, h]; exact info24

set_option maxHeartbeats 2000000 in
theorem lookup_any (et at_ : ByteArray) (mv : Option Nat) (hasF : Int → Bool) (V : Int → List (List Int)) (sz : Nat) (m rt : List Int) (res : Bool) (w : World)
    (hl : Look w mv hasF V sz) (hm : m.length = 48) (hrt : rt.length = 192)
    (hres : res = true ↔ (et.toList == at_.toList) = true ∧ (∀ r : Nat, r < 5 → hasF r = true → (V r).contains (regOf m rt r) = true) ∧ cntH hasF 5 = sz) :
    Calls Try.prog 6 #[.string et, .string at_, .map mv, .agg (bs m).toArray, .agg (bs rt).toArray] w fun e w' => e = .returned (.bool res) ∧ Below w.heap.size w w' := by
  have HR : Hid _ := hres
  clear hres
  have HL : Hid (Look w mv hasF V sz) := hl
  clear hl
  have hmid0 : Mid6 w ((w.alloc (.cells (bs m).toArray 23)).alloc (.cells (bs rt).toArray 24)) m rt := by
    refine ⟨((Below.refl _ _).alloc (Nat.le_refl _) _).alloc (by rw [size_alloc]; omega) _, World.rangeAt_alloc (rangeAt_new w (bs m) 23) _, ?_⟩
    have h := rangeAt_new (w.alloc (.cells (bs m).toArray 23)) (bs rt) 24
    rwa [size_alloc] at h
  cases hE : (et.toList == at_.toList)
  · have hf : res = false := by
      cases hres : res
      · rfl
      · have := (HR.out.1 hres).1; rw [hE] at this; cases this
    subst hf
    clear HR
    go_enter Try.func6, Try.ntmps6
    go_wp2
    go_ret
    exact ⟨rfl, hmid0.1⟩
  · go_enter Try.func6, Try.ntmps6
    go_wp2
    go_loopw [11, 12] (fun c i wr => ∃ k : Nat, k ≤ 5 ∧ i = .int .i64 k ∧ c = .int .i64 (cntH hasF k) ∧ Mid6 w wr m rt ∧ ∀ r : Nat, r < k → hasF r = true → (V r).contains (regOf m rt r) = true) (fun _ i _ => 5 - (intOf i).toNat)
    case atStart => exact ⟨0, by omega, rfl, rfl, hmid0, fun r hr => by omega⟩
    case round =>
      obtain ⟨k, hk, rfl, rfl, hmid, hgood⟩ := hrel
      clear hmid0
      have HG : Hid _ := hgood
      clear hgood
      have hcl := cntH_le hasF k
      have HS : Hid (cntH hasF (k + 1) = cntH hasF k + (if hasF (k : Int) then 1 else 0)) := cntH_succ hasF k
      by_cases hlt : k < 5
      · cases hH : hasF (k : Int)
        · go_wp2_with (at_lookup; refine wpList_look _ rfl _ _ rfl mv hasF V sz HL.out hmid.1 rfl (k : Int) rfl (by omega) (by omega) ?_)
          intro av l c
          try go_frame
          go_wp2
          go_roundw
          case rel =>
            refine ⟨k + 1, by omega, by go_num, ?_, hmid, fun r hr hh => ?_⟩
            · rw [HS.out, hH]; rfl
            · by_cases e : r = k
              · subst e; rw [hH] at hh; cases hh
              · exact HG.out r (by omega) hh
          case measure => simp [intOf]; omega
        · go_wp2_with (at_lookup; refine wpList_look _ rfl _ _ rfl mv hasF V sz HL.out hmid.1 rfl (k : Int) rfl (by omega) (by omega) ?_)
          intro av l c hsl
          try go_frame
          go_wp2_with (first | (refine wpList_load_mid rfl 23 _ rfl w.heap.size 0 rfl (bs m) _ hmid.2.1 Try.underlying23 rfl (info23l _ hm) ?_) | (refine wpList_load_mid rfl 24 _ rfl (w.heap.size + 1) 0 rfl (bs rt) _ hmid.2.2 Try.underlying24 rfl (info24l _ hrt) ?_) | fail)
          refine (register_any k m rt _ hlt hm hrt).mono ?_
          rintro e w1 ⟨rfl, hb1⟩
          go_wp2_with fail
          refine (holds_any _ (V (k : Int)) (regOf m rt k) _ (sliceAt_below hsl hb1) (regOf_length m rt k hm hrt hlt)).mono ?_
          rintro e w2 ⟨rfl, hb2⟩
          have hmid2 := (hmid.below hm hrt hb1).below hm hrt hb2
          cases hC : (V (k : Int)).contains (regOf m rt k)
          · have hf : res = false := by
              cases hres : res
              · rfl
              · have h1 := (HR.out.1 hres).2.1 k hlt hH
                rw [hC] at h1; cases h1
            subst hf
            clear HR HG hC
            go_wp2
            go_ret
            exact ⟨rfl, hmid2.1⟩
          · have HC : Hid _ := hC
            clear hC
            go_wp2
            go_roundw
            case rel =>
              refine ⟨k + 1, by omega, by go_num, ?_, hmid2, fun r hr hh => ?_⟩
              · rw [HS.out, hH]; go_num
              · by_cases e : r = k
                · subst e; exact HC.out
                · exact HG.out r (by omega) hh
            case measure => simp [intOf]; omega
      · have hk5 : k = 5 := by omega
        subst hk5
        have hr : res = (((cntH hasF 5 : Nat) : Int) == (sz : Int)) := by
          rw [Bool.eq_iff_iff]
          constructor
          · intro h; have := (HR.out.1 h).2.2; rw [this]; simp
          · intro h
            refine HR.out.2 ⟨hE, HG.out, ?_⟩
            simp at h
            omega
        have HRR : Hid _ := hr
        clear hr HR HG
        go_wp2_with (at_len; refine wpList_looklen _ rfl _ rfl mv hasF V sz HL.out hmid.1 rfl ?_)
        go_ret
        exact ⟨by rw [HRR.out]; rfl, hmid.1⟩

end Go.Proofs.Qxb6627747a
