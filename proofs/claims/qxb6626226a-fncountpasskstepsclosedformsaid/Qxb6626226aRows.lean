/-
  No cell of these rows narrows 'for every input' (looked for: loops, veiled, ifaces, maps, wideKeys, modest, calm, conditions, laid).
  DERIVED. THE GIVEN ROWS OF THIS SEAT. 2 by the template 'for every input the law returns true; each argument reads behind the call as it read before'; 0 by the template 'total and deterministic' (their statements: Qxb6626226aTotals.lean).
  GIVEN WITH THE SEED: the statements are not yours to turn. If you find one false, say at which input.
  Laid BY PROGRAM, IN A SANDBOX (cutbox-rows.mjs): the forced cells as the released guide's own fill.sh prints them over the translation 729afed7d7a6daab… (all of the seat's roots in one cut). By AI agents, Wed Nov 11 2026. No macro, syntax, notation, axiom, sorry.
-/
import Derived.Test.Qxb6626226aChecked
import GoSem.Claim
import GoSem.ClaimJoined
import GoSem.ClaimMapViews
import Derived.JoinedTies
import Derived.KernelRfl
namespace Go.Proofs.Qxb6626226a
/- THE CELL 'sum', in the pinned program and in every row, IS THE sha256 OF THE DUMP (.gsa) THAT Qxb6626226aProg.lean LOADS. Nothing in Lean hashes anything: it is a label: what it is worth is what the hold of that sum in a sandbox is worth. -/
noncomputable def Try.pinned : Pinned := { name := "qxb6626226a", sum := "729afed7d7a6daab711924a7c213cffb35e4ae31478fcdc4a3b8f1fd216919ec", checked := Try.checked }
namespace Rows
def none {H : Type} : Left H := { results := [], args := [] }

/-- 'zzlaws_root_b1.FnCountPassKStepsClosedForm': WHATEVER THE INPUT: true; the input reads as it did. -/
def fnCountPassKStepsClosedFormSpec : ChangeSpec := { name := "fnCountPassKStepsClosedForm", fn := fun _ => fun
  | [d1, d2] => { results := [.lit (.bool true)], args := [d1, d2] }
  | _ => none }
def fnCountPassKStepsClosedFormRow : OpenClaim := { program := "qxb6626226a", sum := "729afed7d7a6daab711924a7c213cffb35e4ae31478fcdc4a3b8f1fd216919ec", func := "example.com/fair-latch/fair-latch/zzlaws_root_b1.FnCountPassKStepsClosedForm", spec := "fnCountPassKStepsClosedForm", apart := false }
def FnCountPassKStepsClosedFormSaid : Prop := fnCountPassKStepsClosedFormRow.holds Try.pinned (OpenSpec.ofChange fnCountPassKStepsClosedFormSpec)

/-- ITS FALSE NEIGHBOUR: 'it returns false'. Refute it at one input. -/
def fnCountPassKStepsClosedFormWrong : ChangeSpec := { name := "fnCountPassKStepsClosedForm", fn := fun _ => fun
  | [d1, d2] => { results := [.lit (.bool false)], args := [d1, d2] }
  | _ => none }
def FnCountPassKStepsClosedFormWrongFalsely : Prop := fnCountPassKStepsClosedFormRow.holds Try.pinned (OpenSpec.ofChange fnCountPassKStepsClosedFormWrong)

/-- 'zzlaws_root_b1.FnCountPassKeepsTimingOfTrueCount': WHATEVER THE INPUT: true; the input reads as it did. -/
def fnCountPassKeepsTimingOfTrueCountSpec : ChangeSpec := { name := "fnCountPassKeepsTimingOfTrueCount", fn := fun _ => fun
  | [d1, d2, d3] => { results := [.lit (.bool true)], args := [d1, d2, d3] }
  | _ => none }
def fnCountPassKeepsTimingOfTrueCountRow : OpenClaim := { program := "qxb6626226a", sum := "729afed7d7a6daab711924a7c213cffb35e4ae31478fcdc4a3b8f1fd216919ec", func := "example.com/fair-latch/fair-latch/zzlaws_root_b1.FnCountPassKeepsTimingOfTrueCount", spec := "fnCountPassKeepsTimingOfTrueCount", apart := false }
def FnCountPassKeepsTimingOfTrueCountSaid : Prop := fnCountPassKeepsTimingOfTrueCountRow.holds Try.pinned (OpenSpec.ofChange fnCountPassKeepsTimingOfTrueCountSpec)

/-- ITS FALSE NEIGHBOUR: 'it returns false'. Refute it at one input. -/
def fnCountPassKeepsTimingOfTrueCountWrong : ChangeSpec := { name := "fnCountPassKeepsTimingOfTrueCount", fn := fun _ => fun
  | [d1, d2, d3] => { results := [.lit (.bool false)], args := [d1, d2, d3] }
  | _ => none }
def FnCountPassKeepsTimingOfTrueCountWrongFalsely : Prop := fnCountPassKeepsTimingOfTrueCountRow.holds Try.pinned (OpenSpec.ofChange fnCountPassKeepsTimingOfTrueCountWrong)

end Rows
end Go.Proofs.Qxb6626226a
