/-
  No cell of these rows narrows 'for every input' (looked for: loops, veiled, ifaces, maps, wideKeys, modest, calm, conditions, laid).
  DERIVED. THE GIVEN ROWS OF THIS SEAT. 2 by the template 'for every input the law returns true; each argument reads behind the call as it read before'; 0 by the template 'total and deterministic' (their statements: Qxb6626321aTotals.lean).
  GIVEN WITH THE SEED: the statements are not yours to turn. If you find one false, say at which input.
  Laid BY PROGRAM, IN A SANDBOX (cutbox-rows.mjs): the forced cells as the released guide's own fill.sh prints them over the translation 1df83e3d69a4cc46… (all of the seat's roots in one cut). By AI agents, Wed Nov 11 2026. No macro, syntax, notation, axiom, sorry.
-/
import Derived.Test.Qxb6626321aChecked
import GoSem.Claim
import GoSem.ClaimJoined
import GoSem.ClaimMapViews
import Derived.JoinedTies
import Derived.KernelRfl
namespace Go.Proofs.Qxb6626321a
/- THE CELL 'sum', in the pinned program and in every row, IS THE sha256 OF THE DUMP (.gsa) THAT Qxb6626321aProg.lean LOADS. Nothing in Lean hashes anything: it is a label: what it is worth is what the hold of that sum in a sandbox is worth. -/
noncomputable def Try.pinned : Pinned := { name := "qxb6626321a", sum := "1df83e3d69a4cc4670cac46dea20e37714194ae55dc6d264e67e9aa9258015b3", checked := Try.checked }
namespace Rows
def none {H : Type} : Left H := { results := [], args := [] }

/-- 'zzlaws_internal_syntax_b1.FnIsNameSplitsAtAnyCut': WHATEVER THE INPUT: true; the input reads as it did. -/
def fnIsNameSplitsAtAnyCutSpec : ChangeSpec := { name := "fnIsNameSplitsAtAnyCut", fn := fun _ => fun
  | [d1, d2] => { results := [.lit (.bool true)], args := [d1, d2] }
  | _ => none }
def fnIsNameSplitsAtAnyCutRow : OpenClaim := { program := "qxb6626321a", sum := "1df83e3d69a4cc4670cac46dea20e37714194ae55dc6d264e67e9aa9258015b3", func := "example.com/oxbow/oxbow/zzlaws_internal_syntax_b1.FnIsNameSplitsAtAnyCut", spec := "fnIsNameSplitsAtAnyCut", apart := false }
def FnIsNameSplitsAtAnyCutSaid : Prop := fnIsNameSplitsAtAnyCutRow.holds Try.pinned (OpenSpec.ofChange fnIsNameSplitsAtAnyCutSpec)

/-- ITS FALSE NEIGHBOUR: 'it returns false'. Refute it at one input. -/
def fnIsNameSplitsAtAnyCutWrong : ChangeSpec := { name := "fnIsNameSplitsAtAnyCut", fn := fun _ => fun
  | [d1, d2] => { results := [.lit (.bool false)], args := [d1, d2] }
  | _ => none }
def FnIsNameSplitsAtAnyCutWrongFalsely : Prop := fnIsNameSplitsAtAnyCutRow.holds Try.pinned (OpenSpec.ofChange fnIsNameSplitsAtAnyCutWrong)

/-- 'zzlaws_internal_syntax_b1.FnIsNameUnderOneInsertedByte': WHATEVER THE INPUT: true; the input reads as it did. -/
def fnIsNameUnderOneInsertedByteSpec : ChangeSpec := { name := "fnIsNameUnderOneInsertedByte", fn := fun _ => fun
  | [d1, d2, d3] => { results := [.lit (.bool true)], args := [d1, d2, d3] }
  | _ => none }
def fnIsNameUnderOneInsertedByteRow : OpenClaim := { program := "qxb6626321a", sum := "1df83e3d69a4cc4670cac46dea20e37714194ae55dc6d264e67e9aa9258015b3", func := "example.com/oxbow/oxbow/zzlaws_internal_syntax_b1.FnIsNameUnderOneInsertedByte", spec := "fnIsNameUnderOneInsertedByte", apart := false }
def FnIsNameUnderOneInsertedByteSaid : Prop := fnIsNameUnderOneInsertedByteRow.holds Try.pinned (OpenSpec.ofChange fnIsNameUnderOneInsertedByteSpec)

/-- ITS FALSE NEIGHBOUR: 'it returns false'. Refute it at one input. -/
def fnIsNameUnderOneInsertedByteWrong : ChangeSpec := { name := "fnIsNameUnderOneInsertedByte", fn := fun _ => fun
  | [d1, d2, d3] => { results := [.lit (.bool false)], args := [d1, d2, d3] }
  | _ => none }
def FnIsNameUnderOneInsertedByteWrongFalsely : Prop := fnIsNameUnderOneInsertedByteRow.holds Try.pinned (OpenSpec.ofChange fnIsNameUnderOneInsertedByteWrong)

end Rows
end Go.Proofs.Qxb6626321a
