/- SEAT b6627868aD: THE CARD FnParseGangMatchesModel. -/
import Derived.Test.Qxb6627868aDoorWalks11
import Derived.Test.Qxb6627868aDoorTie
import Derived.Test.Qxb6627868aDoorCards
import Derived.LaidMore
import Derived.Stop.Joined
import Derived.Stop.LaidErr
import Derived.SevenTiedAt
namespace Go.Proofs.Qxb6627868aDoor
open Go.ChangeShapes Go.WideShapes Go.ChangeAt Go.WideMaps Go.WideElems Go.RowKit
open Go.ChangeMaps (open_string shut_string)

theorem own : ownKnob Tryd.prog.godebug = none := by kernel_rfl
theorem laidOut : laidOutB Tryd.prog = true := by kernel_rfl
theorem gES : Tryd.prog.globalNamed "strconv.ErrSyntax" = some 0 := by kernel_rfl
theorem gER : Tryd.prog.globalNamed "strconv.ErrRange" = some 1 := by kernel_rfl
theorem gEST : (Tryd.prog.globals[0]?).map (·.type) = some 46 := by kernel_rfl
theorem gERT : (Tryd.prog.globals[1]?).map (·.type) = some 46 := by kernel_rfl
theorem cells71 : Tryd.prog.cellsOf 71 = 1 := by kernel_rfl
theorem cells9 : Tryd.prog.cellsOf 9 = 1 := by kernel_rfl
/-- The error type's name, as the row has it. -/
def errName : String := match (Rows.laid_strconv_ErrRange : DataW Unit) with
  | .iface nm _ => nm
  | _ => ""
theorem rows_named (q : String) (hq : q = errName) : ((List.range Tryd.prog.types.size).all fun u => Tryd.prog.typeName? 3 u != some q || u == 69) = true := by
  subst hq
  kernel_rfl
/-- THE ONE ROW OF THAT NAME. -/
theorem row69 (u : TypeId) (h : Tryd.prog.typeName? 3 u = some errName) : u = 69 :=
  typeName_ptr_named (nm := "errors.errorString") (rows_named _ (by decide)) (by kernel_rfl) (by decide) u (h.trans (congrArg some (by decide)))

/-- What the row lists. -/
abbrev laid5 : List (String × DataW Unit) := Rows.fnParseGangMatchesModelRow.laid

theorem ev_of_laid {W : World} (h : laidMetH Tryd.prog laid5 W) : EV W := by
  rw [MakeChecks.laidMetH_plain _ _ _ (by kernel_rfl)] at h
  have h3 := h.tail.tail.tail
  have h4 := h3.tail
  obtain ⟨a1, s1, hv1, -, -, -⟩ := laid_sentinel h3 gER gERT Tryd.underlying46 row69 Tryd.underlying69 Tryd.underlying71 rfl rfl Tryd.underlying9 cells71 cells9
  obtain ⟨a0, s0, hv0, -, -, -⟩ := laid_sentinel h4 gES gEST Tryd.underlying46 row69 Tryd.underlying69 Tryd.underlying71 rfl rfl Tryd.underlying9 cells71 cells9
  exact ⟨⟨_, _, hv0⟩, ⟨_, _, hv1⟩⟩

/-- The door's own heap meets the condition. -/
theorem door_met (os : Os) (args : Array Value) : laidMetH Tryd.prog laid5 ((World.doorLaid Tryd.prog 400 os).forCall (fun _ _ => 0) ⟨#[], args, []⟩).memory :=
  laidMetH_of_parts3 (fuel := 8) (laidMet_of_run' 8 (by kernel_rfl) (by kernel_rfl)) (by kernel_rfl) (by kernel_rfl)

set_option maxRecDepth 100000 in
theorem lifted8 (os : Os) (started : os.Started) (H : Type) (enc : TypeId × Value → H) :
    ReturnsInHanded {} Tryd.checked os 3 .any (fun w args => (Rows.fnParseGangMatchesModelSpec.pre enc Tryd.prog Tryd.f3 [] false w args ∧ laidMetH Tryd.prog laid5 w) ∧ sizedMet enc Tryd.prog Tryd.f3 (OpenSpec.ofChange Rows.fnParseGangMatchesModelSpec) false w args)
      (Rows.fnParseGangMatchesModelSpec.post enc Tryd.prog Tryd.f3 false true false false) := by
  refine returnsInHanded_of_change_and (C := Tryd.checked) (X := fun w _ => laidMetH Tryd.prog laid5 w) (fun _ _ _ hh h => h.of_heap hh) own started (by kernel_rfl) Tryd.func3
    (ChangeSpec.witness_shaped (enc := enc) (C := Tryd.checked) (os := os) (X := fun w _ => laidMetH Tryd.prog laid5 w) false (World.doorLaid Tryd.prog 400 os) #[.string ByteArray.empty, .string ByteArray.empty, .string ByteArray.empty, .string ByteArray.empty] 8 rfl (World.shaped_of_RefB (by kernel_rfl) (by kernel_rfl)) (by kernel_rfl) (by kernel_rfl) (by kernel_rfl) (door_met os _)) ?_
  intro W base args ds gs before hval0 hW _ _ hL _
  have hval : ∀ (j : Nat) t v, Tryd.f3.params[j]? = some t → args[j]? = some v → Value.okWide Tryd.prog W .any base t v := hval0
  have hW' := hW
  obtain ⟨p, q, hA0, hV, rfl, hfz, hnd⟩ := hW
  have hA : DataW.TrodAll enc Tryd.prog W 0 (fun _ => true) true Tryd.f3.params.toList args.toList ds p := hA0
  rw [Tryd.params3] at hA hval
  obtain ⟨v0, vs0, d0, ds0, p0, q0, hargs, rfl, rfl, h0, r0⟩ := trodAll_cons hA
  obtain ⟨v1, vs1, d1, ds1, p1, q1, rfl, rfl, rfl, h1, r1⟩ := trodAll_cons r0
  obtain ⟨v2, vs2, d2, ds2, p2, q2, rfl, rfl, rfl, h2, r2⟩ := trodAll_cons r1
  obtain ⟨v3, vs3, d3, ds3, p3, q3, rfl, rfl, rfl, h3, r3⟩ := trodAll_cons r2
  obtain ⟨rfl, rfl, rfl⟩ := trodAll_nil r3
  obtain rfl : args = #[v0, v1, v2, v3] := by cases args; simp_all
  obtain ⟨rfl, rfl⟩ := trodVars_none hV
  have lt : ∀ {t : TypeId} {v : Value} {d : DataW H} {ps : List MemPlace}, DataW.Trod enc Tryd.prog W 0 (fun _ => true) true t v d ps → ∀ x ∈ ps, x.block < W.heap.size := fun h => by obtain ⟨m, hm⟩ := h; exact DataW.trod_lt m _ _ _ hm
  have hcall : Calls Tryd.prog 3 #[v0, v1, v2, v3] W fun e w' => e = .returned (.bool true) ∧ Below W.heap.size W w' := by
    obtain ⟨s0, rfl, _⟩ := open_string Tryd.underlying9 (hval 0 9 v0 rfl rfl) h0
    obtain ⟨s1, rfl, _⟩ := open_string Tryd.underlying9 (hval 1 9 v1 rfl rfl) h1
    obtain ⟨s2, rfl, _⟩ := open_string Tryd.underlying9 (hval 2 9 v2 rfl rfl) h2
    obtain ⟨s3, rfl, _⟩ := open_string Tryd.underlying9 (hval 3 9 v3 rfl rfl) h3
    exact match_walk s0 s1 s2 s3 W (ev_of_laid hL)
  refine hcall.mono fun e W' ⟨he, bel⟩ => ?_
  subst he
  exact ⟨_, rfl, _, _, _, [], _, [], hW', trodAll_mk1 (shut_bool Tryd.underlying4 _),
    (trodAll_cons_mk (Below.trod laidOut (by kernel_rfl) (of_decide_eq_true (by kernel_rfl)) h0 bel (lt h0))
    (trodAll_cons_mk (Below.trod laidOut (by kernel_rfl) (of_decide_eq_true (by kernel_rfl)) h1 bel (lt h1))
    (trodAll_cons_mk (Below.trod laidOut (by kernel_rfl) (of_decide_eq_true (by kernel_rfl)) h2 bel (lt h2))
    (trodAll_cons_mk (Below.trod laidOut (by kernel_rfl) (of_decide_eq_true (by kernel_rfl)) h3 bel (lt h3)) trodAll_mk0)))), rfl, bel.frame _, fun h => by cases h⟩

theorem over8 : Rows.FnParseGangMatchesModelSaid :=
  OpenClaim.holds_of_wide 3 Tryd.f3 rfl rfl rfl rfl rfl rfl rfl ⟨rfl, rfl, rfl, rfl, rfl⟩ rfl rfl rfl rfl rfl (by kernel_rfl) Tryd.func3 (by kernel_rfl)
    (of_decide_eq_true (by kernel_rfl)) (by unfold Func.isWrapper; first | (rw [if_pos (by decide +kernel)]; kernel_rfl) | (rw [if_neg (by decide +kernel)]; exact ⟨rfl, rfl⟩))
    (fun os started H enc _ => lifted8 os started H enc)

/-- THE CARD. -/
theorem matchesModel_proved : Rows.FnParseGangMatchesModelCardSaid :=
  Claim7.holds_tied_plain_at .later [] [.data, .data, .data, .sentinel, .sentinel] true (true, "5a183e89865e00663e156a139421d57aa7caf1cd0936ac3a6c68b5d21280b9a3") true
    over8 (fun _ h => by cases h) (by kernel_rfl) (fun _ h => by cases h) fnParseGangMatchesModel_row_tie rfl ⟨rfl, rfl⟩ (by kernel_rfl) rfl
    (fun f fn hf hfn => by
      obtain rfl : f = 3 := Option.some.inj ((show Tryd.prog.funcNamed Rows.fnParseGangMatchesModelRow.func = some 3 by kernel_rfl).symm.trans hf) |>.symm
      obtain rfl : fn = Tryd.f3 := (Option.some.inj (Tryd.func3.symm.trans hfn)).symm
      exact ⟨by kernel_rfl, fun j t ht => by
        rw [Tryd.params3] at ht
        have h9 : t = 9 := by
          rcases j with _ | _ | _ | _ | j
          · simpa using ht.symm
          · simpa using ht.symm
          · simpa using ht.symm
          · simpa using ht.symm
          · simp at ht
        subst h9
        exact (show Tryd.prog.wantsStandIn 9 = false by kernel_rfl)⟩)
    (by kernel_rfl)
#print axioms matchesModel_proved
end Go.Proofs.Qxb6627868aDoor
