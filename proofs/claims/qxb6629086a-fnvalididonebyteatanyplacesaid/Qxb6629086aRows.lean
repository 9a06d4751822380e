/-
  No cell of these rows narrows 'for every input' (looked for: loops, veiled, ifaces, maps, wideKeys, modest, calm, conditions, laid).
  DERIVED. THE GIVEN ROWS OF THIS SEAT. 2 by the template 'for every input the law returns true; each argument reads behind the call as it read before'; 0 by the template 'total and deterministic' (their statements: Qxb6629086aTotals.lean).
  GIVEN WITH THE SEED: the statements are not yours to turn. If you find one false, say at which input.
  Laid BY PROGRAM, IN A SANDBOX (cutbox-rows.mjs): the forced cells as the released guide's own fill.sh prints them over the translation 11fb2b20888085f8… (all of the seat's roots in one cut). By AI agents, Wed Nov 11 2026. No macro, syntax, notation, axiom, sorry.
-/
import Derived.Test.Qxb6629086aChecked
import GoSem.Claim
import GoSem.ClaimJoined
import GoSem.ClaimMapViews
import Derived.JoinedTies
import Derived.KernelRfl
namespace Go.Proofs.Qxb6629086a
/- THE CELL 'sum', in the pinned program and in every row, IS THE sha256 OF THE DUMP (.gsa) THAT Qxb6629086aProg.lean LOADS. Nothing in Lean hashes anything: it is a label: what it is worth is what the hold of that sum in a sandbox is worth. -/
noncomputable def Try.pinned : Pinned := { name := "qxb6629086a", sum := "11fb2b20888085f86421e3eacb1de7506fbaa09f10527e6174ef0d3fc97ec82d", checked := Try.checked }
namespace Rows
def none {H : Type} : Left H := { results := [], args := [] }

/-- 'zzlaws_internal_store_b1.FnValidIDCutAtAnyPoint': WHATEVER THE INPUT: true; the input reads as it did. -/
def fnValidIDCutAtAnyPointSpec : ChangeSpec := { name := "fnValidIDCutAtAnyPoint", fn := fun _ => fun
  | [d1, d2] => { results := [.lit (.bool true)], args := [d1, d2] }
  | _ => none }
def fnValidIDCutAtAnyPointRow : OpenClaim := { program := "qxb6629086a", sum := "11fb2b20888085f86421e3eacb1de7506fbaa09f10527e6174ef0d3fc97ec82d", func := "example.com/ptac/ptac/zzlaws_internal_store_b1.FnValidIDCutAtAnyPoint", spec := "fnValidIDCutAtAnyPoint", apart := false }
def FnValidIDCutAtAnyPointSaid : Prop := fnValidIDCutAtAnyPointRow.holds Try.pinned (OpenSpec.ofChange fnValidIDCutAtAnyPointSpec)

/-- ITS FALSE NEIGHBOUR: 'it returns false'. Refute it at one input. -/
def fnValidIDCutAtAnyPointWrong : ChangeSpec := { name := "fnValidIDCutAtAnyPoint", fn := fun _ => fun
  | [d1, d2] => { results := [.lit (.bool false)], args := [d1, d2] }
  | _ => none }
def FnValidIDCutAtAnyPointWrongFalsely : Prop := fnValidIDCutAtAnyPointRow.holds Try.pinned (OpenSpec.ofChange fnValidIDCutAtAnyPointWrong)

/-- 'zzlaws_internal_store_b1.FnValidIDOneByteAtAnyPlace': WHATEVER THE INPUT: true; the input reads as it did. -/
def fnValidIDOneByteAtAnyPlaceSpec : ChangeSpec := { name := "fnValidIDOneByteAtAnyPlace", fn := fun _ => fun
  | [d1, d2, d3] => { results := [.lit (.bool true)], args := [d1, d2, d3] }
  | _ => none }
def fnValidIDOneByteAtAnyPlaceRow : OpenClaim := { program := "qxb6629086a", sum := "11fb2b20888085f86421e3eacb1de7506fbaa09f10527e6174ef0d3fc97ec82d", func := "example.com/ptac/ptac/zzlaws_internal_store_b1.FnValidIDOneByteAtAnyPlace", spec := "fnValidIDOneByteAtAnyPlace", apart := false }
def FnValidIDOneByteAtAnyPlaceSaid : Prop := fnValidIDOneByteAtAnyPlaceRow.holds Try.pinned (OpenSpec.ofChange fnValidIDOneByteAtAnyPlaceSpec)

/-- ITS FALSE NEIGHBOUR: 'it returns false'. Refute it at one input. -/
def fnValidIDOneByteAtAnyPlaceWrong : ChangeSpec := { name := "fnValidIDOneByteAtAnyPlace", fn := fun _ => fun
  | [d1, d2, d3] => { results := [.lit (.bool false)], args := [d1, d2, d3] }
  | _ => none }
def FnValidIDOneByteAtAnyPlaceWrongFalsely : Prop := fnValidIDOneByteAtAnyPlaceRow.holds Try.pinned (OpenSpec.ofChange fnValidIDOneByteAtAnyPlaceWrong)

end Rows
end Go.Proofs.Qxb6629086a
