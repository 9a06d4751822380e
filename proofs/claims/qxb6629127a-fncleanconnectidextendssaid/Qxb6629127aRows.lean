/-
  No cell of these rows narrows 'for every input' (looked for: loops, veiled, ifaces, maps, wideKeys, modest, calm, conditions, laid).
  DERIVED. THE GIVEN ROWS OF THIS SEAT. 2 by the template 'for every input the law returns true; each argument reads behind the call as it read before'; 0 by the template 'total and deterministic' (their statements: Qxb6629127aTotals.lean).
  GIVEN WITH THE SEED: the statements are not yours to turn. If you find one false, say at which input.
  Laid BY PROGRAM, IN A SANDBOX (cutbox-rows.mjs): the forced cells as the released guide's own fill.sh prints them over the translation e160323dd7a39834… (all of the seat's roots in one cut). By AI agents, Wed Nov 11 2026. No macro, syntax, notation, axiom, sorry.
-/
import Derived.Test.Qxb6629127aChecked
import GoSem.Claim
import GoSem.ClaimJoined
import GoSem.ClaimMapViews
import Derived.JoinedTies
import Derived.KernelRfl
namespace Go.Proofs.Qxb6629127a
/- THE CELL 'sum', in the pinned program and in every row, IS THE sha256 OF THE DUMP (.gsa) THAT Qxb6629127aProg.lean LOADS. Nothing in Lean hashes anything: it is a label: what it is worth is what the hold of that sum in a sandbox is worth. -/
noncomputable def Try.pinned : Pinned := { name := "qxb6629127a", sum := "e160323dd7a3983410c316d23f25f438580e6f7ebec0a705bad2f286d05c9eef", checked := Try.checked }
namespace Rows
def none {H : Type} : Left H := { results := [], args := [] }

/-- 'zzlaws_internal_mqtt_b1.FnCleanConnectLevelsAgree': WHATEVER THE INPUT: true; the input reads as it did. -/
def fnCleanConnectLevelsAgreeSpec : ChangeSpec := { name := "fnCleanConnectLevelsAgree", fn := fun _ => fun
  | [d1, d2] => { results := [.lit (.bool true)], args := [d1, d2] }
  | _ => none }
def fnCleanConnectLevelsAgreeRow : OpenClaim := { program := "qxb6629127a", sum := "e160323dd7a3983410c316d23f25f438580e6f7ebec0a705bad2f286d05c9eef", func := "example.com/embargo/embargo/zzlaws_internal_mqtt_b1.FnCleanConnectLevelsAgree", spec := "fnCleanConnectLevelsAgree", apart := false }
def FnCleanConnectLevelsAgreeSaid : Prop := fnCleanConnectLevelsAgreeRow.holds Try.pinned (OpenSpec.ofChange fnCleanConnectLevelsAgreeSpec)

/-- ITS FALSE NEIGHBOUR: 'it returns false'. Refute it at one input. -/
def fnCleanConnectLevelsAgreeWrong : ChangeSpec := { name := "fnCleanConnectLevelsAgree", fn := fun _ => fun
  | [d1, d2] => { results := [.lit (.bool false)], args := [d1, d2] }
  | _ => none }
def FnCleanConnectLevelsAgreeWrongFalsely : Prop := fnCleanConnectLevelsAgreeRow.holds Try.pinned (OpenSpec.ofChange fnCleanConnectLevelsAgreeWrong)

/-- 'zzlaws_internal_mqtt_b1.FnCleanConnectIdExtends': WHATEVER THE INPUT: true; the input reads as it did. -/
def fnCleanConnectIdExtendsSpec : ChangeSpec := { name := "fnCleanConnectIdExtends", fn := fun _ => fun
  | [d1, d2, d3] => { results := [.lit (.bool true)], args := [d1, d2, d3] }
  | _ => none }
def fnCleanConnectIdExtendsRow : OpenClaim := { program := "qxb6629127a", sum := "e160323dd7a3983410c316d23f25f438580e6f7ebec0a705bad2f286d05c9eef", func := "example.com/embargo/embargo/zzlaws_internal_mqtt_b1.FnCleanConnectIdExtends", spec := "fnCleanConnectIdExtends", apart := false }
def FnCleanConnectIdExtendsSaid : Prop := fnCleanConnectIdExtendsRow.holds Try.pinned (OpenSpec.ofChange fnCleanConnectIdExtendsSpec)

/-- ITS FALSE NEIGHBOUR: 'it returns false'. Refute it at one input. -/
def fnCleanConnectIdExtendsWrong : ChangeSpec := { name := "fnCleanConnectIdExtends", fn := fun _ => fun
  | [d1, d2, d3] => { results := [.lit (.bool false)], args := [d1, d2, d3] }
  | _ => none }
def FnCleanConnectIdExtendsWrongFalsely : Prop := fnCleanConnectIdExtendsRow.holds Try.pinned (OpenSpec.ofChange fnCleanConnectIdExtendsWrong)

end Rows
end Go.Proofs.Qxb6629127a
