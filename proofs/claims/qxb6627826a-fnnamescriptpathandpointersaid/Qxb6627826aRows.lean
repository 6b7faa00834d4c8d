/-
  No cell of these rows narrows 'for every input' (looked for: loops, veiled, ifaces, maps, wideKeys, modest, calm, conditions, laid).
  DERIVED. THE GIVEN ROWS OF THIS SEAT. 2 by the template 'for every input the law returns true; each argument reads behind the call as it read before'; 0 by the template 'total and deterministic' (their statements: Qxb6627826aTotals.lean).
  GIVEN WITH THE SEED: the statements are not yours to turn. If you find one false, say at which input.
  Laid BY PROGRAM, IN A SANDBOX (cutbox-rows.mjs): the forced cells as the released guide's own fill.sh prints them over the translation 4dddcb3986a0d807… (all of the seat's roots in one cut). By AI agents, Wed Nov 11 2026. No macro, syntax, notation, axiom, sorry.
-/
import Derived.Test.Qxb6627826aChecked
import GoSem.Claim
import GoSem.ClaimJoined
import GoSem.ClaimMapViews
import Derived.JoinedTies
import Derived.KernelRfl
namespace Go.Proofs.Qxb6627826a
/- THE CELL 'sum', in the pinned program and in every row, IS THE sha256 OF THE DUMP (.gsa) THAT Qxb6627826aProg.lean LOADS. Nothing in Lean hashes anything: it is a label: what it is worth is what the hold of that sum in a sandbox is worth. -/
noncomputable def Try.pinned : Pinned := { name := "qxb6627826a", sum := "4dddcb3986a0d807ec7cecae8d9e2322a3af2aca1dfac3b42d2f7861a5590339", checked := Try.checked }
namespace Rows
def none {H : Type} : Left H := { results := [], args := [] }

/-- 'zzlaws_root_b1.FnNameScriptPathAndPointer': WHATEVER THE INPUT: true; the input reads as it did. -/
def fnNameScriptPathAndPointerSpec : ChangeSpec := { name := "fnNameScriptPathAndPointer", fn := fun _ => fun
  | [d] => { results := [.lit (.bool true)], args := [d] }
  | _ => none }
def fnNameScriptPathAndPointerRow : OpenClaim := { program := "qxb6627826a", sum := "4dddcb3986a0d807ec7cecae8d9e2322a3af2aca1dfac3b42d2f7861a5590339", func := "example.com/assay/assay/zzlaws_root_b1.FnNameScriptPathAndPointer", spec := "fnNameScriptPathAndPointer", apart := false }
def FnNameScriptPathAndPointerSaid : Prop := fnNameScriptPathAndPointerRow.holds Try.pinned (OpenSpec.ofChange fnNameScriptPathAndPointerSpec)

/-- ITS FALSE NEIGHBOUR: 'it returns false'. Refute it at one input. -/
def fnNameScriptPathAndPointerWrong : ChangeSpec := { name := "fnNameScriptPathAndPointer", fn := fun _ => fun
  | [d] => { results := [.lit (.bool false)], args := [d] }
  | _ => none }
def FnNameScriptPathAndPointerWrongFalsely : Prop := fnNameScriptPathAndPointerRow.holds Try.pinned (OpenSpec.ofChange fnNameScriptPathAndPointerWrong)

/-- 'zzlaws_root_b1.FnNameCutAgreesAndLengths': WHATEVER THE INPUT: true; the input reads as it did. -/
def fnNameCutAgreesAndLengthsSpec : ChangeSpec := { name := "fnNameCutAgreesAndLengths", fn := fun _ => fun
  | [d1, d2] => { results := [.lit (.bool true)], args := [d1, d2] }
  | _ => none }
def fnNameCutAgreesAndLengthsRow : OpenClaim := { program := "qxb6627826a", sum := "4dddcb3986a0d807ec7cecae8d9e2322a3af2aca1dfac3b42d2f7861a5590339", func := "example.com/assay/assay/zzlaws_root_b1.FnNameCutAgreesAndLengths", spec := "fnNameCutAgreesAndLengths", apart := false }
def FnNameCutAgreesAndLengthsSaid : Prop := fnNameCutAgreesAndLengthsRow.holds Try.pinned (OpenSpec.ofChange fnNameCutAgreesAndLengthsSpec)

/-- ITS FALSE NEIGHBOUR: 'it returns false'. Refute it at one input. -/
def fnNameCutAgreesAndLengthsWrong : ChangeSpec := { name := "fnNameCutAgreesAndLengths", fn := fun _ => fun
  | [d1, d2] => { results := [.lit (.bool false)], args := [d1, d2] }
  | _ => none }
def FnNameCutAgreesAndLengthsWrongFalsely : Prop := fnNameCutAgreesAndLengthsRow.holds Try.pinned (OpenSpec.ofChange fnNameCutAgreesAndLengthsWrong)

end Rows
end Go.Proofs.Qxb6627826a
