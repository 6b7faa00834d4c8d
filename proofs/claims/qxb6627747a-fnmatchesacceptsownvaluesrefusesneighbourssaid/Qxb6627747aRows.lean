/-
  NARROWER THAN 'FOR EVERY INPUT', by the rows' own cells (each row's printed sentence says how): FnMatchesAgreesWithLookupModel: maps.
  DERIVED. THE GIVEN ROWS OF THIS SEAT. 2 by the template 'for every input the law returns true; each argument reads behind the call as it read before'; 0 by the template 'total and deterministic' (their statements: Qxb6627747aTotals.lean).
  GIVEN WITH THE SEED: the statements are not yours to turn. If you find one false, say at which input.
  Laid BY PROGRAM, IN A SANDBOX (cutbox-rows.mjs): the forced cells as the released guide's own fill.sh prints them over the translation 3b015ceb899a8945… (all of the seat's roots in one cut). By AI agents, Wed Nov 11 2026. No macro, syntax, notation, axiom, sorry.
-/
import Derived.Test.Qxb6627747aChecked
import GoSem.Claim
import GoSem.ClaimJoined
import GoSem.ClaimMapViews
import Derived.JoinedTies
import Derived.KernelRfl
namespace Go.Proofs.Qxb6627747a
/- THE CELL 'sum', in the pinned program and in every row, IS THE sha256 OF THE DUMP (.gsa) THAT Qxb6627747aProg.lean LOADS. Nothing in Lean hashes anything: it is a label: what it is worth is what the hold of that sum in a sandbox is worth. -/
noncomputable def Try.pinned : Pinned := { name := "qxb6627747a", sum := "3b015ceb899a8945b924800ba8a099d045f1066d33ebfc7a63ea42c7dea21e1a", checked := Try.checked }
namespace Rows
def none {H : Type} : Left H := { results := [], args := [] }

/-- 'zzlaws_tdx_b1.FnMatchesAgreesWithLookupModel': WHATEVER THE INPUT: true; the input reads as it did. -/
def fnMatchesAgreesWithLookupModelSpec : ChangeSpec := { name := "fnMatchesAgreesWithLookupModel", fn := fun _ => fun
  | [d1, d2, d3, d4, d5, d6] => { results := [.lit (.bool true)], args := [d1, d2, d3, d4, d5, d6] }
  | _ => none }
def fnMatchesAgreesWithLookupModelRow : OpenClaim := { program := "qxb6627747a", sum := "3b015ceb899a8945b924800ba8a099d045f1066d33ebfc7a63ea42c7dea21e1a", func := "example.com/libvouch/libvouch/zzlaws_tdx_b1.FnMatchesAgreesWithLookupModel", spec := "fnMatchesAgreesWithLookupModel", maps := true, apart := false }
def FnMatchesAgreesWithLookupModelSaid : Prop := fnMatchesAgreesWithLookupModelRow.holds Try.pinned (OpenSpec.ofChange fnMatchesAgreesWithLookupModelSpec)

/-- ITS FALSE NEIGHBOUR: 'it returns false'. Refute it at one input. -/
def fnMatchesAgreesWithLookupModelWrong : ChangeSpec := { name := "fnMatchesAgreesWithLookupModel", fn := fun _ => fun
  | [d1, d2, d3, d4, d5, d6] => { results := [.lit (.bool false)], args := [d1, d2, d3, d4, d5, d6] }
  | _ => none }
def FnMatchesAgreesWithLookupModelWrongFalsely : Prop := fnMatchesAgreesWithLookupModelRow.holds Try.pinned (OpenSpec.ofChange fnMatchesAgreesWithLookupModelWrong)

/-- 'zzlaws_tdx_b1.FnMatchesAcceptsOwnValuesRefusesNeighbours': WHATEVER THE INPUT: true; the input reads as it did. -/
def fnMatchesAcceptsOwnValuesRefusesNeighboursSpec : ChangeSpec := { name := "fnMatchesAcceptsOwnValuesRefusesNeighbours", fn := fun _ => fun
  | [d1, d2, d3, d4, d5, d6, d7, d8] => { results := [.lit (.bool true)], args := [d1, d2, d3, d4, d5, d6, d7, d8] }
  | _ => none }
def fnMatchesAcceptsOwnValuesRefusesNeighboursRow : OpenClaim := { program := "qxb6627747a", sum := "3b015ceb899a8945b924800ba8a099d045f1066d33ebfc7a63ea42c7dea21e1a", func := "example.com/libvouch/libvouch/zzlaws_tdx_b1.FnMatchesAcceptsOwnValuesRefusesNeighbours", spec := "fnMatchesAcceptsOwnValuesRefusesNeighbours", apart := false }
def FnMatchesAcceptsOwnValuesRefusesNeighboursSaid : Prop := fnMatchesAcceptsOwnValuesRefusesNeighboursRow.holds Try.pinned (OpenSpec.ofChange fnMatchesAcceptsOwnValuesRefusesNeighboursSpec)

/-- ITS FALSE NEIGHBOUR: 'it returns false'. Refute it at one input. -/
def fnMatchesAcceptsOwnValuesRefusesNeighboursWrong : ChangeSpec := { name := "fnMatchesAcceptsOwnValuesRefusesNeighbours", fn := fun _ => fun
  | [d1, d2, d3, d4, d5, d6, d7, d8] => { results := [.lit (.bool false)], args := [d1, d2, d3, d4, d5, d6, d7, d8] }
  | _ => none }
def FnMatchesAcceptsOwnValuesRefusesNeighboursWrongFalsely : Prop := fnMatchesAcceptsOwnValuesRefusesNeighboursRow.holds Try.pinned (OpenSpec.ofChange fnMatchesAcceptsOwnValuesRefusesNeighboursWrong)

end Rows
end Go.Proofs.Qxb6627747a
