/-
  No cell of these rows narrows 'for every input' (looked for: loops, veiled, ifaces, maps, wideKeys, modest, calm, conditions, laid).
  DERIVED. THE GIVEN ROWS OF THIS SEAT. 2 by the template 'for every input the law returns true; each argument reads behind the call as it read before'; 0 by the template 'total and deterministic' (their statements: Qxb6627778aTotals.lean).
  GIVEN WITH THE SEED: the statements are not yours to turn. If you find one false, say at which input.
  Laid BY PROGRAM, IN A SANDBOX (cutbox-rows.mjs): the forced cells as the released guide's own fill.sh prints them over the translation afd8e9184f941aea… (all of the seat's roots in one cut). By AI agents, Wed Nov 11 2026. No macro, syntax, notation, axiom, sorry.
-/
import Derived.Test.Qxb6627778aChecked
import GoSem.Claim
import GoSem.ClaimJoined
import GoSem.ClaimMapViews
import Derived.JoinedTies
import Derived.KernelRfl
namespace Go.Proofs.Qxb6627778a
/- THE CELL 'sum', in the pinned program and in every row, IS THE sha256 OF THE DUMP (.gsa) THAT Qxb6627778aProg.lean LOADS. Nothing in Lean hashes anything: it is a label: what it is worth is what the hold of that sum in a sandbox is worth. -/
noncomputable def Try.pinned : Pinned := { name := "qxb6627778a", sum := "afd8e9184f941aeae5c1c185815ddcf8cae0a65f47bdddfbfe56d61e0f2ca80e", checked := Try.checked }
namespace Rows
def none {H : Type} : Left H := { results := [], args := [] }

/-- 'zzlaws_internal_bomber_b1.FnDefaultConfigAgreesWithSettings': WHATEVER THE INPUT: true; the input reads as it did. -/
def fnDefaultConfigAgreesWithSettingsSpec : ChangeSpec := { name := "fnDefaultConfigAgreesWithSettings", fn := fun _ => fun
  | [] => { results := [.lit (.bool true)], args := [] }
  | _ => none }
def fnDefaultConfigAgreesWithSettingsRow : OpenClaim := { program := "qxb6627778a", sum := "afd8e9184f941aeae5c1c185815ddcf8cae0a65f47bdddfbfe56d61e0f2ca80e", func := "example.com/tickwire/tickwire/zzlaws_internal_bomber_b1.FnDefaultConfigAgreesWithSettings", spec := "fnDefaultConfigAgreesWithSettings", apart := false }
def FnDefaultConfigAgreesWithSettingsSaid : Prop := fnDefaultConfigAgreesWithSettingsRow.holds Try.pinned (OpenSpec.ofChange fnDefaultConfigAgreesWithSettingsSpec)

/-- ITS FALSE NEIGHBOUR: 'it returns false'. Refute it at one input. -/
def fnDefaultConfigAgreesWithSettingsWrong : ChangeSpec := { name := "fnDefaultConfigAgreesWithSettings", fn := fun _ => fun
  | [] => { results := [.lit (.bool false)], args := [] }
  | _ => none }
def FnDefaultConfigAgreesWithSettingsWrongFalsely : Prop := fnDefaultConfigAgreesWithSettingsRow.holds Try.pinned (OpenSpec.ofChange fnDefaultConfigAgreesWithSettingsWrong)

/-- 'zzlaws_internal_bomber_b1.FnDefaultConfigIsPlayable': WHATEVER THE INPUT: true; the input reads as it did. -/
def fnDefaultConfigIsPlayableSpec : ChangeSpec := { name := "fnDefaultConfigIsPlayable", fn := fun _ => fun
  | [] => { results := [.lit (.bool true)], args := [] }
  | _ => none }
def fnDefaultConfigIsPlayableRow : OpenClaim := { program := "qxb6627778a", sum := "afd8e9184f941aeae5c1c185815ddcf8cae0a65f47bdddfbfe56d61e0f2ca80e", func := "example.com/tickwire/tickwire/zzlaws_internal_bomber_b1.FnDefaultConfigIsPlayable", spec := "fnDefaultConfigIsPlayable", apart := false }
def FnDefaultConfigIsPlayableSaid : Prop := fnDefaultConfigIsPlayableRow.holds Try.pinned (OpenSpec.ofChange fnDefaultConfigIsPlayableSpec)

/-- ITS FALSE NEIGHBOUR: 'it returns false'. Refute it at one input. -/
def fnDefaultConfigIsPlayableWrong : ChangeSpec := { name := "fnDefaultConfigIsPlayable", fn := fun _ => fun
  | [] => { results := [.lit (.bool false)], args := [] }
  | _ => none }
def FnDefaultConfigIsPlayableWrongFalsely : Prop := fnDefaultConfigIsPlayableRow.holds Try.pinned (OpenSpec.ofChange fnDefaultConfigIsPlayableWrong)

end Rows
end Go.Proofs.Qxb6627778a
