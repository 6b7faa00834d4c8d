/- SEAT b6627747a: THE FIRST STATEMENT: FnMatchesAgreesWithLookupModel. -/
import Derived.Test.Qxb6627747aOpen
namespace Go.Proofs.Qxb6627747a
open Go.ChangeShapes Go.WideShapes Go.ChangeAt Go.RowKit
open Go.ChangeMaps (open_string shut_string)
open Go.Maps (Keyed)

theorem laidOut : laidOutB Try.prog = true := by kernel_rfl

/-- The law at a nil map. -/
theorem law3_nil (id et at_ : ByteArray) (m rt : List Int) (w : World) (hid : id.size ≤ maxLen) (het : et.size ≤ maxLen) (hat : at_.size ≤ maxLen) (hm : m.length = 48) (hrt : rt.length = 192) :
    Calls Try.prog 3 #[.string id, .string et, .map none, .string at_, .agg (bs m).toArray, .agg (bs rt).toArray] w fun e w' => e = .returned (.bool true) ∧ Below w.heap.size w w' :=
  law3_walk id et at_ none (fun _ => false) (fun _ => []) 0 m rt (et.toList == at_.toList) w hid het hat (Nat.zero_le _) (look_nil _) hm hrt
    (fun w' pm pb hb h1 h2 _ => zzmatches pm pb at_ _ w' (matches_nil pm pb et at_ w' h1 h2))
    (fun w' hb => lookup_any et at_ none (fun _ => false) (fun _ => []) 0 m rt (et.toList == at_.toList) w' (look_nil _) hm hrt
      ⟨fun h => ⟨h, fun _ _ h => (by cases h), rfl⟩, fun h => h.1⟩)

/-- The law at a map that is not nil. -/
theorem law3_map (id et at_ : ByteArray) (m rt : List Int) (w : World) (hid : id.size ≤ maxLen) (het : et.size ≤ maxLen) (hat : at_.size ≤ maxLen) (hm : m.length = 48) (hrt : rt.length = 192)
    (bm n : Nat) (D : DataW Value) (V : Int → List (List Int)) (hown : w.ownsMap Try.prog 3 tok bm n D) (hn : n ≤ maxLen) (hV : ∀ k v, D.atKey (.int .i64 k) .nil = .held v → SliceAt w v (V k)) :
    Calls Try.prog 3 #[.string id, .string et, .map (some bm), .string at_, .agg (bs m).toArray, .agg (bs rt).toArray] w fun e w' => e = .returned (.bool true) ∧ Below w.heap.size w w' := by
  have hpl := plain_law hown (fun k => (V k).contains (regOf m rt k.toNat) = true)
  obtain ⟨res, hres⟩ : ∃ res : Bool, (res = true ↔ ((et.toList == at_.toList) = true ∧ ∀ k : Int, Maps.has D (.int .i64 k) = true → 0 ≤ k ∧ k < 5 ∧ (V k).contains (regOf m rt k.toNat) = true)) := by
    by_cases h : (et.toList == at_.toList) = true ∧ ∀ k : Int, Maps.has D (.int .i64 k) = true → 0 ≤ k ∧ k < 5 ∧ (V k).contains (regOf m rt k.toNat) = true
    · exact ⟨true, ⟨fun _ => h, fun _ => rfl⟩⟩
    · exact ⟨false, ⟨fun h' => (by cases h'), fun h' => absurd h' h⟩⟩
  refine law3_walk id et at_ (some bm) (fun k => Maps.has D (.int .i64 k)) V (Maps.size D) m rt res w hid het hat (Nat.le_trans hown.size_le hn) (look_map hown hV) hm hrt ?_ ?_
  · intro w' pm pb hb h1 h2 h3
    exact zzmatches pm pb at_ _ w' (matches_map pm pb bm n et at_ D V m rt _ w' h1 h2 (ownsMap_below hown hb hown.lt) (fun k v hk => sliceAt_below (hV k v hk) hb) hm hrt h3 hres)
  · intro w' hb
    refine lookup_any et at_ (some bm) _ V _ m rt _ w' ((look_map hown hV).below hb) hm hrt (hres.trans ?_)
    rw [hpl]
    simp only [Int.toNat_natCast]

set_option maxRecDepth 100000 in
theorem lifted1 (os : Os) (started : os.Started) (H : Type) (enc : TypeId × Value → H) :
    ReturnsInHanded {} Try.checked os 3 .any (Rows.fnMatchesAgreesWithLookupModelSpec.pre6 enc Try.prog Try.f3 Rows.fnMatchesAgreesWithLookupModelRow.domain false) (Rows.fnMatchesAgreesWithLookupModelSpec.post enc Try.prog Try.f3 false true false false) := by
  refine returnsInHanded_of_change (C := Try.checked) own started (by kernel_rfl) Try.func3
    (ChangeSpec.witness6 (enc := enc) (C := Try.checked) false ⟨#[], #[.string ByteArray.empty, .string ByteArray.empty, .map none, .string ByteArray.empty, .agg zeros48, .agg (bs (List.replicate 192 0)).toArray], []⟩ 8 (by kernel_rfl) (by kernel_rfl) (by kernel_rfl) (by kernel_rfl)) ?_
  intro W base args ds gs before hval0 hW hcnd _
  have hval : ∀ (j : Nat) t v, Try.f3.params[j]? = some t → args[j]? = some v → Value.okWide Try.prog W .any base t v := hval0
  have hW' := hW
  obtain ⟨p, q, hA0, hV, rfl, hfz, hnd⟩ := hW
  have hA : DataW.TrodAll enc Try.prog W 0 (fun _ => true) true Try.f3.params.toList args.toList ds p := hA0
  rw [Try.params3] at hA hval
  obtain ⟨v0, vs0, d0, ds0, p0, q0, hargs, rfl, rfl, h0, r0⟩ := trodAll_cons hA
  obtain ⟨v1, vs1, d1, ds1, p1, q1, rfl, rfl, rfl, h1, r1⟩ := trodAll_cons r0
  obtain ⟨v2, vs2, d2, ds2, p2, q2, rfl, rfl, rfl, h2, r2⟩ := trodAll_cons r1
  obtain ⟨v3, vs3, d3, ds3, p3, q3, rfl, rfl, rfl, h3, r3⟩ := trodAll_cons r2
  obtain ⟨v4, vs4, d4, ds4, p4, q4, rfl, rfl, rfl, h4, r4⟩ := trodAll_cons r3
  obtain ⟨v5, vs5, d5, ds5, p5, q5, rfl, rfl, rfl, h5, r5⟩ := trodAll_cons r4
  obtain ⟨rfl, rfl, rfl⟩ := trodAll_nil r5
  obtain rfl : args = #[v0, v1, v2, v3, v4, v5] := by cases args; simp_all
  obtain ⟨rfl, rfl⟩ := trodVars_none hV
  have lt : ∀ {t : TypeId} {v : Value} {d : DataW H} {ps : List MemPlace}, DataW.Trod enc Try.prog W 0 (fun _ => true) true t v d ps → ∀ x ∈ ps, x.block < W.heap.size := fun h => by obtain ⟨m, hm⟩ := h; exact DataW.trod_lt m _ _ _ hm
  obtain ⟨s0, e0, hs0⟩ : ∃ s, v0 = .string s ∧ s.size ≤ maxLen := by
    obtain ⟨s, hv, _, _, hs⟩ := open_string Try.underlying9 (hval 0 9 v0 rfl rfl) h0; exact ⟨s, hv, hs⟩
  obtain ⟨s1, e1, hs1⟩ : ∃ s, v1 = .string s ∧ s.size ≤ maxLen := by
    obtain ⟨s, hv, _, _, hs⟩ := open_string Try.underlying9 (hval 1 9 v1 rfl rfl) h1; exact ⟨s, hv, hs⟩
  obtain ⟨s3, e3, hs3⟩ : ∃ s, v3 = .string s ∧ s.size ≤ maxLen := by
    obtain ⟨s, hv, _, _, hs⟩ := open_string Try.underlying9 (hval 3 9 v3 rfl rfl) h3; exact ⟨s, hv, hs⟩
  obtain ⟨m, e4, hm⟩ := open23 (hval 4 23 v4 rfl rfl) h4
  obtain ⟨rt, e5, hrt⟩ := open24 (hval 5 24 v5 rfl rfl) h5
  obtain ⟨mv, e2⟩ := okWide_map Try.underlying22 (hval 2 22 v2 rfl rfl)
  have hcall : Calls Try.prog 3 #[v0, v1, v2, v3, v4, v5] W fun e w' => e = .returned (.bool true) ∧ Below W.heap.size W w' := by
    rw [e0, e1, e2, e3, e4, e5]
    obtain ⟨fuel, hf⟩ := h2
    rw [e2] at hf
    rcases WideElems.open_map Try.underlying22 hf with ⟨hcs, _⟩ | ⟨b, es, clock, n, _, hcs, hb, _, F, _⟩
    · simp [Value.cells] at hcs
      subst hcs
      exact law3_nil s0 s1 s3 m rt W hs0 hs1 hs3 hm hrt
    · simp [Value.cells] at hcs
      subst hcs
      have hown : W.ownsMap Try.prog 3 tok b es.size (.map ((es.toList.map (WideElems.rg Try.prog 3 tok)).foldr DataW.insert [])) := ⟨es, clock, hb, fit_tok F, Nat.le_refl _, rfl⟩
      have hex : ∀ k : Int, ∃ vals, ∀ v, (DataW.map ((es.toList.map (WideElems.rg Try.prog 3 tok)).foldr DataW.insert [])).atKey (.int .i64 k) .nil = .held v → SliceAt W v vals := fun k => by
        by_cases h : ∃ v, (DataW.map ((es.toList.map (WideElems.rg Try.prog 3 tok)).foldr DataW.insert [])).atKey (.int .i64 k) .nil = .held v
        · obtain ⟨v, hv⟩ := h
          obtain ⟨vals, hs⟩ := atKey_held F hv
          refine ⟨vals, fun v' hv' => ?_⟩
          rw [hv] at hv'
          cases hv'
          exact hs
        · exact ⟨[], fun v hv => absurd ⟨v, hv⟩ h⟩
      obtain ⟨V, hV⟩ := Classical.axiomOfChoice hex
      exact law3_map s0 s1 s3 m rt W hs0 hs1 hs3 hm hrt b es.size _ V hown F.size hV
  refine hcall.mono fun e W' ⟨he, bel⟩ => ?_
  subst he
  exact ⟨_, rfl, _, _, _, [], _, [], hW', trodAll_mk1 (shut_bool Try.underlying4 _),
    (trodAll_cons_mk (Below.trod laidOut (by kernel_rfl) (of_decide_eq_true (by kernel_rfl)) h0 bel (lt h0))
    (trodAll_cons_mk (Below.trod laidOut (by kernel_rfl) (of_decide_eq_true (by kernel_rfl)) h1 bel (lt h1))
    (trodAll_cons_mk (Below.trod laidOut (by kernel_rfl) (of_decide_eq_true (by kernel_rfl)) h2 bel (lt h2))
    (trodAll_cons_mk (Below.trod laidOut (by kernel_rfl) (of_decide_eq_true (by kernel_rfl)) h3 bel (lt h3))
    (trodAll_cons_mk (Below.trod laidOut (by kernel_rfl) (of_decide_eq_true (by kernel_rfl)) h4 bel (lt h4))
    (trodAll_cons_mk (Below.trod laidOut (by kernel_rfl) (of_decide_eq_true (by kernel_rfl)) h5 bel (lt h5)) trodAll_mk0)))))), rfl, bel.frame _, fun h => by cases h⟩

theorem over1 : Rows.fnMatchesAgreesWithLookupModelRow.holds Try.pinned (OpenSpec.ofChange Rows.fnMatchesAgreesWithLookupModelSpec) :=
  OpenClaim.holds_of_wide 3 Try.f3 rfl rfl rfl rfl rfl rfl rfl ⟨rfl, rfl, rfl, rfl, rfl⟩ rfl rfl rfl rfl rfl (by kernel_rfl) Try.func3 (by kernel_rfl)
    (of_decide_eq_true (by kernel_rfl)) (by unfold Func.isWrapper; first | (rw [if_pos (by decide +kernel)]; kernel_rfl) | (rw [if_neg (by decide +kernel)]; exact ⟨rfl, rfl⟩))
    (fun os started H enc _ => lifted1 os started H enc)

/-- THE STATEMENT. -/
theorem matchesAgrees_proved : Rows.FnMatchesAgreesWithLookupModelSaid := over1
#print axioms matchesAgrees_proved
end Go.Proofs.Qxb6627747a
