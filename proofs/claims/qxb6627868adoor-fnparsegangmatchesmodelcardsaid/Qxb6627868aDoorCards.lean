/-
  DERIVED. GIVEN WITH THE SEED: THE CARDS: each row of Qxb6627868aDoorRows.lean that lists a variable, with what it lists TIED to the program's text (the seventh form; the later family's looks); each row that meets fmt, with fmt's text TOLD by the authors' own Lean function (tested against real Go, not proved from fmt's source: count such statements apart). THE CARD IS WHAT COUNTS. Prove the row's statement (the work); the ties are given (Qxb6627868aDoorTie.lean); close each card by the builder's one call (the guide's Derived/Test/ToyasCard.lean, 'card_holds'). Laid BY PROGRAM, IN A SANDBOX (cutbox-door.mjs). By AI agents, Wed Nov 11 2026. No macro, syntax, notation, axiom, sorry.
-/
import Derived.Test.Qxb6627868aDoorRows
import GoSem.ClaimSeven
namespace Go.Proofs.Qxb6627868aDoor
namespace Rows

/-- THE TIED CARD OF 'zzlaws_pkg_schedule_b1.FnParseGangMatchesModel'. -/
def fnParseGangMatchesModelCard : Claim7 := { stood := { row := fnParseGangMatchesModelRow, standIns := [], harness := (true, "5a183e89865e00663e156a139421d57aa7caf1cd0936ac3a6c68b5d21280b9a3"), looks := true }, kinds := [], alts := [], laidByText := true, laidKinds := [.data, .data, .data, .sentinel, .sentinel], laidTests := true, laidLooks := .later }
def FnParseGangMatchesModelCardSaid : Prop := Claim7.holds Tryd.pinned (.plain (OpenSpec.ofChange fnParseGangMatchesModelSpec)) fnParseGangMatchesModelCard

/-- THE TIED CARD OF 'zzlaws_pkg_schedule_b1.FnParseGangMinEqualToCardinalityIsLeavingItOut'. -/
def fnParseGangMinEqualToCardinalityIsLeavingItOutCard : Claim7 := { stood := { row := fnParseGangMinEqualToCardinalityIsLeavingItOutRow, standIns := [], harness := (true, "5a183e89865e00663e156a139421d57aa7caf1cd0936ac3a6c68b5d21280b9a3"), looks := true }, kinds := [], alts := [], laidByText := true, laidKinds := [.data, .data, .data, .sentinel, .sentinel], laidTests := true, laidLooks := .later }
def FnParseGangMinEqualToCardinalityIsLeavingItOutCardSaid : Prop := Claim7.holds Tryd.pinned (.plain (OpenSpec.ofChange fnParseGangMinEqualToCardinalityIsLeavingItOutSpec)) fnParseGangMinEqualToCardinalityIsLeavingItOutCard
end Rows
end Go.Proofs.Qxb6627868aDoor
