/-
  No cell of these rows narrows 'for every input' (looked for: loops, veiled, ifaces, maps, wideKeys, modest, calm, conditions, laid).
  DERIVED. THE GIVEN ROWS OF THIS SEAT. 2 by the template 'for every input the law returns true; each argument reads behind the call as it read before'; 0 by the template 'total and deterministic' (their statements: Qxb6625905aTotals.lean).
  GIVEN WITH THE SEED: the statements are not yours to turn. If you find one false, say at which input.
  Laid BY PROGRAM, IN A SANDBOX (cutbox-rows.mjs): the forced cells as the released guide's own fill.sh prints them over the translation 84ed4a22bc58cd6f… (all of the seat's roots in one cut). By AI agents, Wed Nov 11 2026. No macro, syntax, notation, axiom, sorry.
-/
import Derived.Test.Qxb6625905aChecked
import GoSem.Claim
import GoSem.ClaimJoined
import GoSem.ClaimMapViews
import Derived.JoinedTies
import Derived.KernelRfl
namespace Go.Proofs.Qxb6625905a
/- THE CELL 'sum', in the pinned program and in every row, IS THE sha256 OF THE DUMP (.gsa) THAT Qxb6625905aProg.lean LOADS. Nothing in Lean hashes anything: it is a label: what it is worth is what the hold of that sum in a sandbox is worth. -/
noncomputable def Try.pinned : Pinned := { name := "qxb6625905a", sum := "84ed4a22bc58cd6f60e3111ccb14def528d863decb2c464000130870db54c36b", checked := Try.checked }
namespace Rows
def none {H : Type} : Left H := { results := [], args := [] }

/-- 'zzlaws_root_b1.FnMergeEntriesIsMaxUnion': WHATEVER THE INPUT: true; the input reads as it did. -/
def fnMergeEntriesIsMaxUnionSpec : ChangeSpec := { name := "fnMergeEntriesIsMaxUnion", fn := fun _ => fun
  | [d1, d2, d3, d4] => { results := [.lit (.bool true)], args := [d1, d2, d3, d4] }
  | _ => none }
def fnMergeEntriesIsMaxUnionRow : OpenClaim := { program := "qxb6625905a", sum := "84ed4a22bc58cd6f60e3111ccb14def528d863decb2c464000130870db54c36b", func := "example.com/causaline/causaline/zzlaws_root_b1.FnMergeEntriesIsMaxUnion", spec := "fnMergeEntriesIsMaxUnion", apart := false }
def FnMergeEntriesIsMaxUnionSaid : Prop := fnMergeEntriesIsMaxUnionRow.holds Try.pinned (OpenSpec.ofChange fnMergeEntriesIsMaxUnionSpec)

/-- ITS FALSE NEIGHBOUR: 'it returns false'. Refute it at one input. -/
def fnMergeEntriesIsMaxUnionWrong : ChangeSpec := { name := "fnMergeEntriesIsMaxUnion", fn := fun _ => fun
  | [d1, d2, d3, d4] => { results := [.lit (.bool false)], args := [d1, d2, d3, d4] }
  | _ => none }
def FnMergeEntriesIsMaxUnionWrongFalsely : Prop := fnMergeEntriesIsMaxUnionRow.holds Try.pinned (OpenSpec.ofChange fnMergeEntriesIsMaxUnionWrong)

/-- 'zzlaws_root_b1.FnMergeEntriesCommutesAndAbsorbs': WHATEVER THE INPUT: true; the input reads as it did. -/
def fnMergeEntriesCommutesAndAbsorbsSpec : ChangeSpec := { name := "fnMergeEntriesCommutesAndAbsorbs", fn := fun _ => fun
  | [d1, d2, d3, d4] => { results := [.lit (.bool true)], args := [d1, d2, d3, d4] }
  | _ => none }
def fnMergeEntriesCommutesAndAbsorbsRow : OpenClaim := { program := "qxb6625905a", sum := "84ed4a22bc58cd6f60e3111ccb14def528d863decb2c464000130870db54c36b", func := "example.com/causaline/causaline/zzlaws_root_b1.FnMergeEntriesCommutesAndAbsorbs", spec := "fnMergeEntriesCommutesAndAbsorbs", apart := false }
def FnMergeEntriesCommutesAndAbsorbsSaid : Prop := fnMergeEntriesCommutesAndAbsorbsRow.holds Try.pinned (OpenSpec.ofChange fnMergeEntriesCommutesAndAbsorbsSpec)

/-- ITS FALSE NEIGHBOUR: 'it returns false'. Refute it at one input. -/
def fnMergeEntriesCommutesAndAbsorbsWrong : ChangeSpec := { name := "fnMergeEntriesCommutesAndAbsorbs", fn := fun _ => fun
  | [d1, d2, d3, d4] => { results := [.lit (.bool false)], args := [d1, d2, d3, d4] }
  | _ => none }
def FnMergeEntriesCommutesAndAbsorbsWrongFalsely : Prop := fnMergeEntriesCommutesAndAbsorbsRow.holds Try.pinned (OpenSpec.ofChange fnMergeEntriesCommutesAndAbsorbsWrong)

end Rows
end Go.Proofs.Qxb6625905a
