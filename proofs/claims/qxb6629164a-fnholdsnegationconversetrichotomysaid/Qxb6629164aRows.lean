/-
  No cell of these rows narrows 'for every input' (looked for: loops, veiled, ifaces, maps, wideKeys, modest, calm, conditions, laid).
  DERIVED. THE GIVEN ROWS OF THIS SEAT. 2 by the template 'for every input the law returns true; each argument reads behind the call as it read before'; 0 by the template 'total and deterministic' (their statements: Qxb6629164aTotals.lean).
  GIVEN WITH THE SEED: the statements are not yours to turn. If you find one false, say at which input.
  Laid BY PROGRAM, IN A SANDBOX (cutbox-rows.mjs): the forced cells as the released guide's own fill.sh prints them over the translation 30cfb7d409fb0523… (all of the seat's roots in one cut). By AI agents, Wed Nov 11 2026. No macro, syntax, notation, axiom, sorry.
-/
import Derived.Test.Qxb6629164aChecked
import GoSem.Claim
import GoSem.ClaimJoined
import GoSem.ClaimMapViews
import Derived.JoinedTies
import Derived.KernelRfl
namespace Go.Proofs.Qxb6629164a
/- THE CELL 'sum', in the pinned program and in every row, IS THE sha256 OF THE DUMP (.gsa) THAT Qxb6629164aProg.lean LOADS. Nothing in Lean hashes anything: it is a label: what it is worth is what the hold of that sum in a sandbox is worth. -/
noncomputable def Try.pinned : Pinned := { name := "qxb6629164a", sum := "30cfb7d409fb0523f756b4b12b3055eb37a6daec1c1276418544702746f1d716", checked := Try.checked }
namespace Rows
def none {H : Type} : Left H := { results := [], args := [] }

/-- 'zzlaws_internal_plan_b1.FnHoldsNegationConverseTrichotomy': WHATEVER THE INPUT: true; the input reads as it did. -/
def fnHoldsNegationConverseTrichotomySpec : ChangeSpec := { name := "fnHoldsNegationConverseTrichotomy", fn := fun _ => fun
  | [d1, d2, d3, d4] => { results := [.lit (.bool true)], args := [d1, d2, d3, d4] }
  | _ => none }
def fnHoldsNegationConverseTrichotomyRow : OpenClaim := { program := "qxb6629164a", sum := "30cfb7d409fb0523f756b4b12b3055eb37a6daec1c1276418544702746f1d716", func := "example.com/rampwright/rampwright/zzlaws_internal_plan_b1.FnHoldsNegationConverseTrichotomy", spec := "fnHoldsNegationConverseTrichotomy", apart := false }
def FnHoldsNegationConverseTrichotomySaid : Prop := fnHoldsNegationConverseTrichotomyRow.holds Try.pinned (OpenSpec.ofChange fnHoldsNegationConverseTrichotomySpec)

/-- ITS FALSE NEIGHBOUR: 'it returns false'. Refute it at one input. -/
def fnHoldsNegationConverseTrichotomyWrong : ChangeSpec := { name := "fnHoldsNegationConverseTrichotomy", fn := fun _ => fun
  | [d1, d2, d3, d4] => { results := [.lit (.bool false)], args := [d1, d2, d3, d4] }
  | _ => none }
def FnHoldsNegationConverseTrichotomyWrongFalsely : Prop := fnHoldsNegationConverseTrichotomyRow.holds Try.pinned (OpenSpec.ofChange fnHoldsNegationConverseTrichotomyWrong)

/-- 'zzlaws_internal_plan_b1.FnHoldsBetweenIsClosedInterval': WHATEVER THE INPUT: true; the input reads as it did. -/
def fnHoldsBetweenIsClosedIntervalSpec : ChangeSpec := { name := "fnHoldsBetweenIsClosedInterval", fn := fun _ => fun
  | [d1, d2, d3] => { results := [.lit (.bool true)], args := [d1, d2, d3] }
  | _ => none }
def fnHoldsBetweenIsClosedIntervalRow : OpenClaim := { program := "qxb6629164a", sum := "30cfb7d409fb0523f756b4b12b3055eb37a6daec1c1276418544702746f1d716", func := "example.com/rampwright/rampwright/zzlaws_internal_plan_b1.FnHoldsBetweenIsClosedInterval", spec := "fnHoldsBetweenIsClosedInterval", apart := false }
def FnHoldsBetweenIsClosedIntervalSaid : Prop := fnHoldsBetweenIsClosedIntervalRow.holds Try.pinned (OpenSpec.ofChange fnHoldsBetweenIsClosedIntervalSpec)

/-- ITS FALSE NEIGHBOUR: 'it returns false'. Refute it at one input. -/
def fnHoldsBetweenIsClosedIntervalWrong : ChangeSpec := { name := "fnHoldsBetweenIsClosedInterval", fn := fun _ => fun
  | [d1, d2, d3] => { results := [.lit (.bool false)], args := [d1, d2, d3] }
  | _ => none }
def FnHoldsBetweenIsClosedIntervalWrongFalsely : Prop := fnHoldsBetweenIsClosedIntervalRow.holds Try.pinned (OpenSpec.ofChange fnHoldsBetweenIsClosedIntervalWrong)

end Rows
end Go.Proofs.Qxb6629164a
