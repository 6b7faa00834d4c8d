/- SEAT b6627747a: THE SECOND STATEMENT: FnMatchesAcceptsOwnValuesRefusesNeighbours. -/
import Derived.Test.Qxb6627747aOpen
import Derived.Test.Qxb6627747aWalks12
namespace Go.Proofs.Qxb6627747a
open Go.ChangeShapes Go.WideShapes Go.ChangeAt Go.RowKit
open Go.ChangeMaps (open_string shut_string)

theorem laidOut2 : laidOutB Try.prog = true := by kernel_rfl

theorem law4_any (at_ ot : ByteArray) (m rt : List Int) (a : Option Addr) (vals : List (List Int)) (l cap : Nat) (pos mask out : Int) (w : World) (ha : at_.size ≤ maxLen) (ho : ot.size ≤ maxLen) (hm : m.length = 48) (hrt : rt.length = 192)
    (hs : SliceAt w (.slice a l cap) vals) (hmk : 0 ≤ mask ∧ mask ≤ 255) (hwo : (Lit.int .i64 out).wf = true) :
    Calls Try.prog 4 #[.string at_, .string ot, .agg (bs m).toArray, .agg (bs rt).toArray, .slice a l cap, .int .i64 pos, .int .u8 mask, .int .i64 out] w fun e w' => e = .returned (.bool true) ∧ Below w.heap.size w w' := by
  have hl : l = vals.length ∧ vals.length ≤ 9223372036854775807 := by
    obtain ⟨a', c', he, h1, _⟩ := hs
    simp only [Value.slice.injEq] at he
    exact ⟨he.2.1, h1⟩
  obtain ⟨rfl, hlb⟩ := hl
  by_cases h : 1048576 < (at_.size : Int) ∨ 1048576 < (ot.size : Int) ∨ 4096 < (vals.length : Int) ∨ 1048576 < (at_.size : Int) + ot.size + 48 * vals.length ∨ pos < 0 ∨ (vals.length : Int) < pos ∨ (0 ≤ out ∧ out < 5)
  · exact law4_early at_ ot m rt a vals.length cap pos mask out w ha ho (by unfold maxLen; omega) hm hrt h
  · obtain ⟨p, rfl⟩ := Int.eq_ofNat_of_zero_le (show 0 ≤ pos by omega)
    exact law4_main at_ ot m rt a vals cap p mask out w hm hrt hs hmk hwo (by omega) (by omega) (by omega) (by omega) (by omega) (by omega)

set_option maxRecDepth 100000 in
theorem lifted2 (os : Os) (started : os.Started) (H : Type) (enc : TypeId × Value → H) :
    ReturnsInHanded {} Try.checked os 4 .any (Rows.fnMatchesAcceptsOwnValuesRefusesNeighboursSpec.pre6 enc Try.prog Try.f4 Rows.fnMatchesAcceptsOwnValuesRefusesNeighboursRow.domain false) (Rows.fnMatchesAcceptsOwnValuesRefusesNeighboursSpec.post enc Try.prog Try.f4 false true false false) := by
  refine returnsInHanded_of_change (C := Try.checked) own started (by kernel_rfl) Try.func4
    (ChangeSpec.witness6 (enc := enc) (C := Try.checked) false ⟨#[], #[.string ByteArray.empty, .string ByteArray.empty, .agg zeros48, .agg (bs (List.replicate 192 0)).toArray, .slice none 0 0, .int .i64 0, .int .u8 0, .int .i64 0], []⟩ 8 (by kernel_rfl) (by kernel_rfl) (by kernel_rfl) (by kernel_rfl)) ?_
  intro W base args ds gs before hval0 hW hcnd _
  have hval : ∀ (j : Nat) t v, Try.f4.params[j]? = some t → args[j]? = some v → Value.okWide Try.prog W .any base t v := hval0
  have hW' := hW
  obtain ⟨p, q, hA0, hV, rfl, hfz, hnd⟩ := hW
  have hA : DataW.TrodAll enc Try.prog W 0 (fun _ => true) true Try.f4.params.toList args.toList ds p := hA0
  rw [Try.params4] at hA hval
  obtain ⟨v0, vs0, d0, ds0, p0, q0, hargs, rfl, rfl, h0, r0⟩ := trodAll_cons hA
  obtain ⟨v1, vs1, d1, ds1, p1, q1, rfl, rfl, rfl, h1, r1⟩ := trodAll_cons r0
  obtain ⟨v2, vs2, d2, ds2, p2, q2, rfl, rfl, rfl, h2, r2⟩ := trodAll_cons r1
  obtain ⟨v3, vs3, d3, ds3, p3, q3, rfl, rfl, rfl, h3, r3⟩ := trodAll_cons r2
  obtain ⟨v4, vs4, d4, ds4, p4, q4, rfl, rfl, rfl, h4, r4⟩ := trodAll_cons r3
  obtain ⟨v5, vs5, d5, ds5, p5, q5, rfl, rfl, rfl, h5, r5⟩ := trodAll_cons r4
  obtain ⟨v6, vs6, d6, ds6, p6, q6, rfl, rfl, rfl, h6, r6⟩ := trodAll_cons r5
  obtain ⟨v7, vs7, d7, ds7, p7, q7, rfl, rfl, rfl, h7, r7⟩ := trodAll_cons r6
  obtain ⟨rfl, rfl, rfl⟩ := trodAll_nil r7
  obtain rfl : args = #[v0, v1, v2, v3, v4, v5, v6, v7] := by cases args; simp_all
  obtain ⟨rfl, rfl⟩ := trodVars_none hV
  have lt : ∀ {t : TypeId} {v : Value} {d : DataW H} {ps : List MemPlace}, DataW.Trod enc Try.prog W 0 (fun _ => true) true t v d ps → ∀ x ∈ ps, x.block < W.heap.size := fun h => by obtain ⟨m, hm⟩ := h; exact DataW.trod_lt m _ _ _ hm
  obtain ⟨s0, e0, hs0⟩ : ∃ s, v0 = .string s ∧ s.size ≤ maxLen := by
    obtain ⟨s, hv, _, _, hs⟩ := open_string Try.underlying9 (hval 0 9 v0 rfl rfl) h0; exact ⟨s, hv, hs⟩
  obtain ⟨s1, e1, hs1⟩ : ∃ s, v1 = .string s ∧ s.size ≤ maxLen := by
    obtain ⟨s, hv, _, _, hs⟩ := open_string Try.underlying9 (hval 1 9 v1 rfl rfl) h1; exact ⟨s, hv, hs⟩
  obtain ⟨m, e2, hm⟩ := open23 (hval 2 23 v2 rfl rfl) h2
  obtain ⟨rt, e3, hrt⟩ := open24 (hval 3 24 v3 rfl rfl) h3
  obtain ⟨a4, l4, c4, e4⟩ := okWide_slice Try.underlying25 (hval 4 25 v4 rfl rfl)
  obtain ⟨pos, e5, w5⟩ : ∃ x, v5 = .int .i64 x ∧ (Lit.int .i64 x).wf = true := by
    obtain ⟨x, hv, _, _, hw⟩ := open_int Try.underlying3 (hval 5 3 v5 rfl rfl) h5; exact ⟨x, hv, hw⟩
  obtain ⟨mask, e6, w6⟩ : ∃ x, v6 = .int .u8 x ∧ (Lit.int .u8 x).wf = true := by
    obtain ⟨x, hv, _, _, hw⟩ := open_int Try.underlying5 (hval 6 5 v6 rfl rfl) h6; exact ⟨x, hv, hw⟩
  obtain ⟨out, e7, w7⟩ : ∃ x, v7 = .int .i64 x ∧ (Lit.int .i64 x).wf = true := by
    obtain ⟨x, hv, _, _, hw⟩ := open_int Try.underlying3 (hval 7 3 v7 rfl rfl) h7; exact ⟨x, hv, hw⟩
  have hcall : Calls Try.prog 4 #[v0, v1, v2, v3, v4, v5, v6, v7] W fun e w' => e = .returned (.bool true) ∧ Below W.heap.size W w' := by
    rw [e0, e1, e2, e3, e4, e5, e6, e7]
    obtain ⟨fuel, hf⟩ := h4
    rw [e4] at hf
    obtain ⟨a, l, c, vals, hcs, hsl⟩ := open25 hf
    simp [Value.cells] at hcs
    obtain ⟨rfl, rfl, rfl⟩ := hcs
    exact law4_any s0 s1 m rt _ vals _ _ pos mask out W hs0 hs1 hm hrt hsl (bounds_u8 w6) w7
  refine hcall.mono fun e W' ⟨he, bel⟩ => ?_
  subst he
  exact ⟨_, rfl, _, _, _, [], _, [], hW', trodAll_mk1 (shut_bool Try.underlying4 _),
    (trodAll_cons_mk (Below.trod laidOut2 (by kernel_rfl) (of_decide_eq_true (by kernel_rfl)) h0 bel (lt h0))
    (trodAll_cons_mk (Below.trod laidOut2 (by kernel_rfl) (of_decide_eq_true (by kernel_rfl)) h1 bel (lt h1))
    (trodAll_cons_mk (Below.trod laidOut2 (by kernel_rfl) (of_decide_eq_true (by kernel_rfl)) h2 bel (lt h2))
    (trodAll_cons_mk (Below.trod laidOut2 (by kernel_rfl) (of_decide_eq_true (by kernel_rfl)) h3 bel (lt h3))
    (trodAll_cons_mk (Below.trod laidOut2 (by kernel_rfl) (of_decide_eq_true (by kernel_rfl)) h4 bel (lt h4))
    (trodAll_cons_mk (Below.trod laidOut2 (by kernel_rfl) (of_decide_eq_true (by kernel_rfl)) h5 bel (lt h5))
    (trodAll_cons_mk (Below.trod laidOut2 (by kernel_rfl) (of_decide_eq_true (by kernel_rfl)) h6 bel (lt h6))
    (trodAll_cons_mk (Below.trod laidOut2 (by kernel_rfl) (of_decide_eq_true (by kernel_rfl)) h7 bel (lt h7)) trodAll_mk0)))))))), rfl, bel.frame _, fun h => by cases h⟩

theorem over2 : Rows.fnMatchesAcceptsOwnValuesRefusesNeighboursRow.holds Try.pinned (OpenSpec.ofChange Rows.fnMatchesAcceptsOwnValuesRefusesNeighboursSpec) :=
  OpenClaim.holds_of_wide 4 Try.f4 rfl rfl rfl rfl rfl rfl rfl ⟨rfl, rfl, rfl, rfl, rfl⟩ rfl rfl rfl rfl rfl (by kernel_rfl) Try.func4 (by kernel_rfl)
    (of_decide_eq_true (by kernel_rfl)) (by unfold Func.isWrapper; first | (rw [if_pos (by decide +kernel)]; kernel_rfl) | (rw [if_neg (by decide +kernel)]; exact ⟨rfl, rfl⟩))
    (fun os started H enc _ => lifted2 os started H enc)

/-- THE STATEMENT. -/
theorem matchesAccepts_proved : Rows.FnMatchesAcceptsOwnValuesRefusesNeighboursSaid := over2
#print axioms matchesAccepts_proved
end Go.Proofs.Qxb6627747a
