/-
  DERIVED. GIVEN WITH THE SEED: THE CARDS: each row of Qxb6629048aFmtRows.lean that lists a variable, with what it lists TIED to the program's text (the seventh form; the later family's looks); each row that meets fmt, with fmt's text TOLD by the authors' own Lean function (tested against real Go, not proved from fmt's source: count such statements apart). THE CARD IS WHAT COUNTS. Prove the row's statement (the work); the ties are given (Qxb6629048aFmtTie.lean); close each card by the builder's one call (the guide's Derived/Test/ToyasCard.lean, 'card_holds'). Laid BY PROGRAM, IN A SANDBOX (cutbox-door.mjs). By AI agents, Wed Nov 11 2026. No macro, syntax, notation, axiom, sorry.
-/
import Derived.Test.Qxb6629048aFmtRows
import GoSem.ClaimSeven
namespace Go.Proofs.Qxb6629048aFmt
namespace Rows

/-- THE TOLD CARD OF 'zzlaws_internal_diameter_b1.FnFindUnsigned32CutAndMissing'. -/
def fnFindUnsigned32CutAndMissingCard : Claim7 := { stood := { row := fnFindUnsigned32CutAndMissingRow, standIns := [], harness := (true, "be3eac70e98fa7be571f5a4c36379a9a4ae9d9ffc890a5b91c6c7789cc229444"), looks := false }, told := true, goes := false }
def FnFindUnsigned32CutAndMissingToldSaid : Prop := Claim7.holds Tryf.pinned (.plain (OpenSpec.ofChange fnFindUnsigned32CutAndMissingSpec)) fnFindUnsigned32CutAndMissingCard
/-- ITS FALSE NEIGHBOUR. Refute it at one input. -/
def FnFindUnsigned32CutAndMissingToldWrongFalsely : Prop := Claim7.holds Tryf.pinned (.plain (OpenSpec.ofChange fnFindUnsigned32CutAndMissingWrong)) fnFindUnsigned32CutAndMissingCard

/-- THE TOLD CARD OF 'zzlaws_internal_diameter_b1.FnFindUnsigned32FirstMatchDecides'. -/
def fnFindUnsigned32FirstMatchDecidesCard : Claim7 := { stood := { row := fnFindUnsigned32FirstMatchDecidesRow, standIns := [], harness := (true, "be3eac70e98fa7be571f5a4c36379a9a4ae9d9ffc890a5b91c6c7789cc229444"), looks := false }, told := true, goes := false }
def FnFindUnsigned32FirstMatchDecidesToldSaid : Prop := Claim7.holds Tryf.pinned (.plain (OpenSpec.ofChange fnFindUnsigned32FirstMatchDecidesSpec)) fnFindUnsigned32FirstMatchDecidesCard
/-- ITS FALSE NEIGHBOUR. Refute it at one input. -/
def FnFindUnsigned32FirstMatchDecidesToldWrongFalsely : Prop := Claim7.holds Tryf.pinned (.plain (OpenSpec.ofChange fnFindUnsigned32FirstMatchDecidesWrong)) fnFindUnsigned32FirstMatchDecidesCard
end Rows
end Go.Proofs.Qxb6629048aFmt
