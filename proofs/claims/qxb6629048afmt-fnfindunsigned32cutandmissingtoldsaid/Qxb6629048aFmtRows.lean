/-
  No cell of these rows narrows 'for every input' (looked for: loops, veiled, ifaces, maps, wideKeys, modest, calm, conditions, laid).
  DERIVED. THE GIVEN ROWS OF THIS SEAT. 2 by the template 'for every input the law returns true; each argument reads behind the call as it read before'; 0 by the template 'total and deterministic' (their statements: Qxb6629048aFmtTotals.lean).
  GIVEN WITH THE SEED: the statements are not yours to turn. If you find one false, say at which input.
  Laid BY PROGRAM, IN A SANDBOX (cutbox-rows.mjs): the forced cells as the released guide's own fill.sh prints them over the translation 8a199994db664a77… (all of the seat's roots in one cut). By AI agents, Wed Nov 11 2026. No macro, syntax, notation, axiom, sorry.
-/
import Derived.Test.Qxb6629048aFmtChecked
import GoSem.Claim
import GoSem.ClaimJoined
import GoSem.ClaimMapViews
import Derived.JoinedTies
import Derived.KernelRfl
namespace Go.Proofs.Qxb6629048aFmt
/- THE CELL 'sum', in the pinned program and in every row, IS THE sha256 OF THE DUMP (.gsa) THAT Qxb6629048aFmtProg.lean LOADS. Nothing in Lean hashes anything: it is a label: what it is worth is what the hold of that sum in a sandbox is worth. -/
noncomputable def Tryf.pinned : Pinned := { name := "qxb6629048afmt", sum := "8a199994db664a77d41d89d7d602d9698ccc251cb4b015b1dd159da94493b59f", checked := Tryf.checked }
namespace Rows
def none {H : Type} : Left H := { results := [], args := [] }

/-- 'zzlaws_internal_diameter_b1.FnFindUnsigned32CutAndMissing': WHATEVER THE INPUT: true; the input reads as it did. -/
def fnFindUnsigned32CutAndMissingSpec : ChangeSpec := { name := "fnFindUnsigned32CutAndMissing", fn := fun _ => fun
  | [d1, d2, d3, d4] => { results := [.lit (.bool true)], args := [d1, d2, d3, d4] }
  | _ => none }
def fnFindUnsigned32CutAndMissingRow : OpenClaim := { program := "qxb6629048afmt", sum := "8a199994db664a77d41d89d7d602d9698ccc251cb4b015b1dd159da94493b59f", func := "example.com/netwhere/netwhere/zzlaws_internal_diameter_b1.FnFindUnsigned32CutAndMissing", spec := "fnFindUnsigned32CutAndMissing", stops := ["fmt.errorf"], inPlace := ["fmt.errorf"], named := ["encoding/binary.BigEndian"], apart := false }
/-- NO THEOREM (fmt's text is open here; it may be false): for the released tool's asking of the row's closed facts alone. THE STATEMENT IS 'FnFindUnsigned32CutAndMissingToldSaid' (Qxb6629048aFmtCards.lean). -/
def FnFindUnsigned32CutAndMissingFormAsk : Prop := fnFindUnsigned32CutAndMissingRow.holds Tryf.pinned (OpenSpec.ofChange fnFindUnsigned32CutAndMissingSpec)

/-- ITS FALSE NEIGHBOUR: 'it returns false'. Refute it at one input. -/
def fnFindUnsigned32CutAndMissingWrong : ChangeSpec := { name := "fnFindUnsigned32CutAndMissing", fn := fun _ => fun
  | [d1, d2, d3, d4] => { results := [.lit (.bool false)], args := [d1, d2, d3, d4] }
  | _ => none }
def FnFindUnsigned32CutAndMissingWrongFormAsk : Prop := fnFindUnsigned32CutAndMissingRow.holds Tryf.pinned (OpenSpec.ofChange fnFindUnsigned32CutAndMissingWrong)

/-- 'zzlaws_internal_diameter_b1.FnFindUnsigned32FirstMatchDecides': WHATEVER THE INPUT: true; the input reads as it did. -/
def fnFindUnsigned32FirstMatchDecidesSpec : ChangeSpec := { name := "fnFindUnsigned32FirstMatchDecides", fn := fun _ => fun
  | [d1, d2] => { results := [.lit (.bool true)], args := [d1, d2] }
  | _ => none }
def fnFindUnsigned32FirstMatchDecidesRow : OpenClaim := { program := "qxb6629048afmt", sum := "8a199994db664a77d41d89d7d602d9698ccc251cb4b015b1dd159da94493b59f", func := "example.com/netwhere/netwhere/zzlaws_internal_diameter_b1.FnFindUnsigned32FirstMatchDecides", spec := "fnFindUnsigned32FirstMatchDecides", stops := ["fmt.errorf"], inPlace := ["fmt.errorf"], named := ["encoding/binary.BigEndian"], apart := false }
/-- NO THEOREM (fmt's text is open here; it may be false): for the released tool's asking of the row's closed facts alone. THE STATEMENT IS 'FnFindUnsigned32FirstMatchDecidesToldSaid' (Qxb6629048aFmtCards.lean). -/
def FnFindUnsigned32FirstMatchDecidesFormAsk : Prop := fnFindUnsigned32FirstMatchDecidesRow.holds Tryf.pinned (OpenSpec.ofChange fnFindUnsigned32FirstMatchDecidesSpec)

/-- ITS FALSE NEIGHBOUR: 'it returns false'. Refute it at one input. -/
def fnFindUnsigned32FirstMatchDecidesWrong : ChangeSpec := { name := "fnFindUnsigned32FirstMatchDecides", fn := fun _ => fun
  | [d1, d2] => { results := [.lit (.bool false)], args := [d1, d2] }
  | _ => none }
def FnFindUnsigned32FirstMatchDecidesWrongFormAsk : Prop := fnFindUnsigned32FirstMatchDecidesRow.holds Tryf.pinned (OpenSpec.ofChange fnFindUnsigned32FirstMatchDecidesWrong)

end Rows
end Go.Proofs.Qxb6629048aFmt
