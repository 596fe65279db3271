/-
  Seat b6625860aD: FnRowKeyIsZoneSlashPrefixAndNumeral: THE ROW, THEN THE TIED CARD.
-/
import Derived.Test.Qxb6625860aDoorRows
import Derived.Test.Qxb6625860aDoorTie
import Derived.Test.Qxb6625860aDoorCards
import Derived.Test.Qxb6625860aDoorLaid
import Derived.Test.Qxb6625860aDoorDec
import Derived.SevenTiedAt
namespace Go.Proofs.Qxb6625860aDoor
open Go.ChangeShapes Go.WideShapes Go.ChangeAt Go.RowKit
open Go.ChangeMaps (open_string shut_string)

set_option maxRecDepth 100000 in
theorem num_lifted (os : Os) (started : os.Started) (H : Type) (enc : TypeId × Value → H) :
    ReturnsInHanded {} Tryd.checked os 3 .any (fun w args => (Rows.fnRowKeyIsZoneSlashPrefixAndNumeralSpec.pre enc Tryd.prog Tryd.f3 [] false w args ∧ laidMetH Tryd.prog laid3 w) ∧ sizedMet enc Tryd.prog Tryd.f3 (OpenSpec.ofChange Rows.fnRowKeyIsZoneSlashPrefixAndNumeralSpec) false w args)
      (Rows.fnRowKeyIsZoneSlashPrefixAndNumeralSpec.post enc Tryd.prog Tryd.f3 false true false false) := by
  refine returnsInHanded_of_change_and (C := Tryd.checked) (X := fun w _ => laidMetH Tryd.prog laid3 w) (fun _ _ _ hh h => h.of_heap hh) own started (by kernel_rfl) Tryd.func3
    (ChangeSpec.witness_shaped (enc := enc) (C := Tryd.checked) (os := os) (X := fun w _ => laidMetH Tryd.prog laid3 w) false (World.doorLaid Tryd.prog 24 os) #[.string ⟨#[]⟩, .int .i64 0] 8 rfl (World.shaped_of_RefB (by kernel_rfl) (by kernel_rfl)) (by kernel_rfl) (by kernel_rfl) (by kernel_rfl) (door_met os _)) ?_
  intro W base args ds gs before hval0 hW _ _ hL _
  have hval : ∀ (j : Nat) t v, Tryd.f3.params[j]? = some t → args[j]? = some v → Value.okWide Tryd.prog W .any base t v := hval0
  have hW' := hW
  obtain ⟨p, q, hA0, hV, rfl, hfz, hnd⟩ := hW
  have hA : DataW.TrodAll enc Tryd.prog W 0 (fun _ => true) true Tryd.f3.params.toList args.toList ds p := hA0
  rw [Tryd.params3] at hA hval
  obtain ⟨v0, vs0, d0, ds0, p0, q0, hargs, rfl, rfl, h0, r0⟩ := trodAll_cons hA
  obtain ⟨v1, vs1, d1, ds1, p1, q1, rfl, rfl, rfl, h1, r1⟩ := trodAll_cons r0
  obtain ⟨rfl, rfl, rfl⟩ := trodAll_nil r1
  obtain rfl : args = #[v0, v1] := by cases args; simp_all
  obtain ⟨rfl, rfl⟩ := trodVars_none hV
  obtain ⟨z1, rfl, rfl, rfl, s1⟩ := open_string Tryd.underlying9 (hval 0 9 v0 rfl rfl) h0
  obtain ⟨n1, rfl, rfl, rfl, k1⟩ := open_int Tryd.underlying3 (hval 1 3 v1 rfl rfl) h1
  clear hA0 hval0
  simp only [List.append_nil] at hW'
  have e1 := bounds_i64 k1
  refine (num_walk z1 n1 s1 e1.1 e1.2 W (tab_of_laid hL)).mono fun e W' ⟨he, hb⟩ => ?_
  subst he
  refine ⟨_, rfl, _, _, _, [], [], [], hW', ?_, ?_, ?_, hb.frame _, fun h => by cases h⟩
  · exact trodAll_cons_mk (shut_bool Tryd.underlying4 _) trodAll_mk0
  · exact trodAll_cons_mk (shut_string Tryd.underlying9 s1) (trodAll_cons_mk (shut_int Tryd.underlying3 k1) trodAll_mk0)
  · rfl

theorem num_row : Rows.FnRowKeyIsZoneSlashPrefixAndNumeralSaid :=
  OpenClaim.holds_of_wide 3 Tryd.f3 rfl rfl rfl rfl rfl rfl rfl ⟨rfl, rfl, rfl, rfl, rfl⟩ rfl rfl rfl rfl rfl (by kernel_rfl) Tryd.func3 (by kernel_rfl)
    (of_decide_eq_true (by kernel_rfl)) (by unfold Func.isWrapper; first | (rw [if_pos (by decide +kernel)]; kernel_rfl) | (rw [if_neg (by decide +kernel)]; exact ⟨rfl, rfl⟩))
    (fun os started H enc _ => num_lifted os started H enc)

/-- ████ THE TIED CARD ████ -/
theorem num_card : Rows.FnRowKeyIsZoneSlashPrefixAndNumeralCardSaid :=
  Claim7.holds_tied_plain_at .later [] [.data, .data, .data] true (true, "ec448db268aa9a13368657776ac1e8860c12ddeef3eee77b77d8f088243583a4") false
    num_row (fun _ h => by cases h) (by kernel_rfl) (fun _ h => by cases h) fnRowKeyIsZoneSlashPrefixAndNumeral_row_tie rfl ⟨rfl, rfl⟩ (by kernel_rfl) rfl
    (fun f fn hf hfn => by
      obtain rfl : f = 3 := Option.some.inj ((show Tryd.prog.funcNamed Rows.fnRowKeyIsZoneSlashPrefixAndNumeralRow.func = some 3 by kernel_rfl).symm.trans hf) |>.symm
      obtain rfl : fn = Tryd.f3 := (Option.some.inj (Tryd.func3.symm.trans hfn)).symm
      exact ⟨by kernel_rfl, fun j t ht => by
        rw [Tryd.params3] at ht
        have hm : t ∈ [9, 3] := by simpa using Array.mem_of_getElem? ht
        have hall : ([9, 3].all fun u => !Tryd.prog.wantsStandIn u) = true := by kernel_rfl
        exact (show Tryd.prog.wantsStandIn t = false by simpa using List.all_eq_true.1 hall t hm)⟩)
    (by kernel_rfl)
end Go.Proofs.Qxb6625860aDoor
