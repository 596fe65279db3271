/-
  Seat b6625905a: FnMergeEntriesCommutesAndAbsorbs, PROVED (the frame after the kit's proof-skeleton.mjs, turned to slices of strings by hand).
-/
import Derived.Test.Qxb6625905aRows
import Derived.Test.Qxb6625905aComm
import Derived.Test.Qxb6625905aOpen
import Derived.WalkKit
import Derived.ProofKit
import Derived.OpenShut
import Derived.ShutString
import Derived.ChangeOld
import Derived.Below
namespace Go.Proofs.Qxb6625905a.fnMergeEntriesCommutesAndAbsorbs
open Go.ChangeShapes Go.WideShapes Go.ChangeAt Go.RowKit
open Go.ChangeMaps (open_string shut_string)
set_option linter.unusedVariables false

theorem own : ownKnob Try.prog.godebug = none := by kernel_rfl
theorem laidOut : laidOutB Try.prog = true := by kernel_rfl

theorem walk (a0 a1 a2 a3 : Option Addr) (c0 c1 c2 c3 : Nat) (xs ys : List ByteArray) (cs ds : List Int) (w : World) (r0 : Rd S w.heap.size w a0 xs) (r1 : Rd U w.heap.size w a1 cs) (r2 : Rd S w.heap.size w a2 ys) (r3 : Rd U w.heap.size w a3 ds)
    (l0 : xs.length ≤ 9223372036854775807) (l1 : cs.length ≤ 9223372036854775807) (l2 : ys.length ≤ 9223372036854775807) (l3 : ds.length ≤ 9223372036854775807) :
    Calls Try.prog 4 #[.slice a0 xs.length c0, .slice a1 cs.length c1, .slice a2 ys.length c2, .slice a3 ds.length c3] w fun e w' => e = .returned (.bool true) ∧ Below w.heap.size w w' := by
  by_cases h : 65536 < xs.length ∨ 65536 < cs.length ∨ 65536 < ys.length ∨ 65536 < ds.length
  · exact comm_long a0 a1 a2 a3 c0 c1 c2 c3 xs ys cs ds w r0 r2 l0 l1 l2 l3 h
  · by_cases h2 : cs.length = xs.length ∧ ds.length = ys.length
    · exact comm_main a0 a1 a2 a3 c0 c1 c2 c3 xs ys cs ds h2.1 h2.2 (by omega) (by omega) w r0 r1 r2 r3
    · exact comm_odd a0 a1 a2 a3 c0 c1 c2 c3 xs ys cs ds w r0 r2 (by omega) (by omega) (by omega) (by omega) h2

/-! ### THE ROW's STEP: WRITTEN OUT: LEAVE IT -/
set_option maxRecDepth 100000 in
theorem lifted (os : Os) (started : os.Started) (H : Type) (enc : TypeId × Value → H) :
    ReturnsInHanded {} Try.checked os 4 .any (Rows.fnMergeEntriesCommutesAndAbsorbsSpec.pre6 enc Try.prog Try.f4 Rows.fnMergeEntriesCommutesAndAbsorbsRow.domain false) (Rows.fnMergeEntriesCommutesAndAbsorbsSpec.post enc Try.prog Try.f4 false true false false) := by
  refine returnsInHanded_of_change (C := Try.checked) own started (by kernel_rfl) Try.func4
    (ChangeSpec.witness6 (enc := enc) (C := Try.checked) false ⟨#[], #[.slice none 0 0, .slice none 0 0, .slice none 0 0, .slice none 0 0], []⟩ 8 (by kernel_rfl) (by kernel_rfl) (by kernel_rfl) (by kernel_rfl)) ?_
  intro W base args ds gs before hval0 hW hcnd _
  have hval : ∀ (j : Nat) t v, Try.f4.params[j]? = some t → args[j]? = some v → Value.okWide Try.prog W .any base t v := hval0
  have hW' := hW
  obtain ⟨p, q, hA0, hV, rfl, hfz, hnd⟩ := hW
  have hA : DataW.TrodAll enc Try.prog W 0 (fun _ => true) true Try.f4.params.toList args.toList ds p := hA0
  rw [Try.params4] at hA hval
  obtain ⟨v0, vs0, d0, ds0, p0, q0, hargs, rfl, rfl, h0, r0⟩ := trodAll_cons hA
  obtain ⟨v1, vs1, d1, ds1, p1, q1, rfl, rfl, rfl, h1, r1⟩ := trodAll_cons r0
  obtain ⟨v2, vs2, d2, ds2, p2, q2, rfl, rfl, rfl, h2, r2⟩ := trodAll_cons r1
  obtain ⟨v3, vs3, d3, ds3, p3, q3, rfl, rfl, rfl, h3, r3⟩ := trodAll_cons r2
  obtain ⟨rfl, rfl, rfl⟩ := trodAll_nil r3
  obtain rfl : args = #[v0, v1, v2, v3] := by cases args; simp_all
  obtain ⟨rfl, rfl⟩ := trodVars_none hV
  obtain ⟨a0, len0, cap0, rfl⟩ := okWide_slice Try.underlying22 (hval 0 22 v0 rfl rfl)
  have k0 := h0
  have lt0 : ∀ x ∈ p0, x.block < W.heap.size := by obtain ⟨m, hm⟩ := k0; exact DataW.trod_lt m _ _ _ hm
  obtain ⟨x0, e0, l0, w0⟩ : ∃ xs : List _, xs.length = len0 ∧ len0 ≤ 9223372036854775807 ∧ Rd S W.heap.size W a0 xs := by
    obtain ⟨fuel, hf⟩ := h0
    exact open22 hf
  subst e0
  obtain ⟨a1, len1, cap1, rfl⟩ := okWide_slice Try.underlying23 (hval 1 23 v1 rfl rfl)
  have k1 := h1
  have lt1 : ∀ x ∈ p1, x.block < W.heap.size := by obtain ⟨m, hm⟩ := k1; exact DataW.trod_lt m _ _ _ hm
  obtain ⟨x1, e1, l1, w1⟩ : ∃ xs : List _, xs.length = len1 ∧ len1 ≤ 9223372036854775807 ∧ Rd U W.heap.size W a1 xs := by
    obtain ⟨fuel, hf⟩ := h1
    exact open23 hf
  subst e1
  obtain ⟨a2, len2, cap2, rfl⟩ := okWide_slice Try.underlying22 (hval 2 22 v2 rfl rfl)
  have k2 := h2
  have lt2 : ∀ x ∈ p2, x.block < W.heap.size := by obtain ⟨m, hm⟩ := k2; exact DataW.trod_lt m _ _ _ hm
  obtain ⟨x2, e2, l2, w2⟩ : ∃ xs : List _, xs.length = len2 ∧ len2 ≤ 9223372036854775807 ∧ Rd S W.heap.size W a2 xs := by
    obtain ⟨fuel, hf⟩ := h2
    exact open22 hf
  subst e2
  obtain ⟨a3, len3, cap3, rfl⟩ := okWide_slice Try.underlying23 (hval 3 23 v3 rfl rfl)
  have k3 := h3
  have lt3 : ∀ x ∈ p3, x.block < W.heap.size := by obtain ⟨m, hm⟩ := k3; exact DataW.trod_lt m _ _ _ hm
  obtain ⟨x3, e3, l3, w3⟩ : ∃ xs : List _, xs.length = len3 ∧ len3 ≤ 9223372036854775807 ∧ Rd U W.heap.size W a3 xs := by
    obtain ⟨fuel, hf⟩ := h3
    exact open23 hf
  subst e3
  clear hA0 hval0
  refine (walk a0 a1 a2 a3 cap0 cap1 cap2 cap3 x0 x2 x1 x3 W w0 w1 w2 w3 l0 l1 l2 l3).mono fun e W' ⟨he, bel⟩ => ?_
  subst he
  exact ⟨_, rfl, _, _, _, [], _, [], hW', trodAll_mk1 (shut_bool Try.underlying4 _), (trodAll_cons_mk (Below.trod laidOut (by kernel_rfl) (of_decide_eq_true (by kernel_rfl)) k0 bel lt0) (trodAll_cons_mk (Below.trod laidOut (by kernel_rfl) (of_decide_eq_true (by kernel_rfl)) k1 bel lt1) (trodAll_cons_mk (Below.trod laidOut (by kernel_rfl) (of_decide_eq_true (by kernel_rfl)) k2 bel lt2) (trodAll_cons_mk (Below.trod laidOut (by kernel_rfl) (of_decide_eq_true (by kernel_rfl)) k3 bel lt3) trodAll_mk0)))), rfl, bel.frame _, fun h => by cases h⟩

theorem over : Rows.fnMergeEntriesCommutesAndAbsorbsRow.holds Try.pinned (OpenSpec.ofChange Rows.fnMergeEntriesCommutesAndAbsorbsSpec) :=
  OpenClaim.holds_of_wide 4 Try.f4 rfl rfl rfl rfl rfl rfl rfl ⟨rfl, rfl, rfl, rfl, rfl⟩ rfl rfl rfl rfl rfl (by kernel_rfl) Try.func4 (by kernel_rfl)
    (of_decide_eq_true (by kernel_rfl)) (by unfold Func.isWrapper; first | (rw [if_pos (by decide +kernel)]; kernel_rfl) | (rw [if_neg (by decide +kernel)]; exact ⟨rfl, rfl⟩))
    (fun os started H enc _ => lifted os started H enc)

/-- ████ THE STATEMENT ████ -/
theorem proved : Rows.FnMergeEntriesCommutesAndAbsorbsSaid := over
end Go.Proofs.Qxb6625905a.fnMergeEntriesCommutesAndAbsorbs
