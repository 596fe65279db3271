/-
  Seat b6625905a: THE WALK of ZZmergeEntries.
-/
import Derived.Test.Qxb6625905aBuild
import Derived.Test.Qxb6625905aMerge
namespace Go.Proofs.Qxb6625905a
open Go.RowKit Plain

set_option maxHeartbeats 400000 in
theorem build_zero (a0 : Addr) (a1 : Option Addr) (c0 c1 : Nat) (w : World) :
    Calls Try.prog 13 #[.slice (some a0) 0 c0, .slice a1 0 c1] w fun e w' => e = .returned (.slice (some ⟨w.heap.size, 0, none⟩) 0 0) ∧ Below w.heap.size w w' := by
  have hnil := fun (w : World) => Lib.run_eql_slice_nil (P := Try.prog) w 22 9 (some a0) 0 c0 0 0 Try.underlying22
  have hmk : ∀ w : World, (Instr.makeSlice 30 (.int .i64 0) (.int .i64 0)).run Try.prog w = .ok (.slice (some ⟨w.heap.size, 0, none⟩) 0 0) (w.alloc (.cells (madeCells #[.string ⟨#[]⟩, .int .u64 0] (0 * 2)) 34)) := fun w => make30 0 (by omega) w
  go_enter Try.func13, Try.ntmps13
  go_wp2
  clear hmk hnil
  go_loop [7] (fun i => i = .int .i64 0) (fun _ => 0)
  case atStart => rfl
  case round =>
    obtain rfl := hrel
    go_wp2
    go_ret
    exact ⟨rfl, (Below.refl _ _).alloc (Nat.le_refl _) _⟩

/-- zzBuildEntries. -/
theorem build_any (a0 a1 : Option Addr) (c0 c1 : Nat) (xs : List ByteArray) (cs : List Int) (hm : cs.length = xs.length) (h63 : xs.length ≤ 1048576) (w : World) (h0 : Rd S w.heap.size w a0 xs) (h1 : Rd U w.heap.size w a1 cs) :
    Calls Try.prog 13 #[.slice a0 xs.length c0, .slice a1 cs.length c1] w fun e w' => ∃ a, e = .returned (.slice a xs.length xs.length) ∧ Ents w' a w.heap.size (xs.zip cs) ∧ Below w.heap.size w w' := by
  by_cases hx : xs = []
  · subst hx
    have hc : cs = [] := List.eq_nil_of_length_eq_zero hm
    subst hc
    cases a0 with
    | none =>
      refine (build_nil a1 0 c0 c1 0 w).mono ?_
      rintro e w' ⟨rfl, rfl⟩
      exact ⟨none, rfl, fun h => absurd rfl h, Below.refl _ _⟩
    | some a0 =>
      refine (build_zero a0 a1 c0 c1 w).mono ?_
      rintro e w' ⟨rfl, hb⟩
      exact ⟨_, rfl, fun h => absurd rfl h, hb⟩
  · have hc : cs ≠ [] := fun e => hx (List.eq_nil_of_length_eq_zero (by rw [← hm, e]; rfl))
    obtain ⟨b0, o0, rfl, hb0, k0⟩ := h0 hx
    obtain ⟨b1, o1, rfl, hb1, k1⟩ := h1 hc
    have := build_some b0 o0 b1 o1 xs.length c0 c1 xs cs rfl hm h63 w k0 k1 hb0 hb1
    rw [hm]
    refine this.mono ?_
    rintro e w' ⟨rfl, hblk, hb⟩
    exact ⟨_, rfl, Ents.of rfl hblk, hb⟩

theorem keys_zip {xs : List ByteArray} {cs : List Int} (h : cs.length = xs.length) : keys (xs.zip cs) = xs := by
  unfold keys
  exact List.map_fst_zip (by omega)
theorem zip_length {xs : List ByteArray} {cs : List Int} (h : cs.length = xs.length) : (xs.zip cs).length = xs.length := by
  rw [List.length_zip]
  omega

/-- What ZZmergeEntries leaves: two new slices that read as the merge. -/
def ZZed (w : World) (A B : List Ent) (e : Ending) (w' : World) : Prop :=
  ∃ (R : List Ent) (g h : Nat), e = .returned (.tuple #[.slice (some ⟨g, 0, none⟩) R.length R.length, .slice (some ⟨h, 0, none⟩) R.length R.length]) ∧ Mrg ltB A B R ∧ R.length ≤ A.length + B.length ∧
    Rd S w'.heap.size w' (some ⟨g, 0, none⟩) (keys R) ∧ Rd U w'.heap.size w' (some ⟨h, 0, none⟩) (R.map (·.2)) ∧ Below w.heap.size w w'

/-- The two builds, as mergeEntries wants them. -/
theorem builds_fit {w w1 w2 : World} {a1 : Option Addr} {A : List Ent} (e1 : Ents w1 a1 w.heap.size A) (b1 : Below w.heap.size w w1) (b2 : Below w1.heap.size w1 w2) :
    ∃ g1, w.heap.size ≤ g1 ∧ g1 ≠ w1.heap.size ∧ Ents w2 a1 g1 A ∧ Below w.heap.size w w2 := by
  have hb : Below w.heap.size w w2 := b1.trans (b2.mono b1.size)
  by_cases hA : A = []
  · exact ⟨w1.heap.size + 1, by have := b1.size; omega, by omega, fun h => absurd hA h, hb⟩
  · obtain ⟨h1, h2⟩ := e1 hA
    have hl := h2.lt
    exact ⟨w.heap.size, Nat.le_refl _, by omega, Ents.of h1 (h2.below b2 hl), hb⟩

/-- The two rows that are filled from the merge, k places done. -/
structure Cop (R : List Ent) (ps qs : List Value) (k : Nat) : Prop where
  lp : ps.length = R.length
  lq : qs.length = R.length
  tp : ps.take k = (R.take k).map fun e => .string e.1
  tq : qs.take k = (R.take k).map fun e => .int .u64 e.2

theorem Cop.step {R : List Ent} {ps qs : List Value} {k : Nat} {X : ByteArray} {C : Int} (h : Cop R ps qs k) (hk : k < R.length) (hE : R[k] = (X, C)) : Cop R (ps.set k (.string X)) (qs.set k (.int .u64 C)) (k + 1) := by
  have hR : R.take (k + 1) = R.take k ++ [(X, C)] := by rw [List.take_succ_eq_append_getElem hk, hE]
  have lp := h.lp
  have lq := h.lq
  refine ⟨by simpa using lp, by simpa using lq, ?_, ?_⟩
  · rw [List.take_succ_eq_append_getElem (by simpa using (by omega : k < ps.length)), List.take_set_of_le (Nat.le_refl _), h.tp, hR]
    simp
  · rw [List.take_succ_eq_append_getElem (by simpa using (by omega : k < qs.length)), List.take_set_of_le (Nat.le_refl _), h.tq, hR]
    simp
theorem Cop.done {R : List Ent} {ps qs : List Value} (h : Cop R ps qs R.length) : ps = (keys R).map S ∧ qs = (R.map (·.2)).map U := by
  have h1 := h.tp
  have h2 := h.tq
  rw [List.take_of_length_le (Nat.le_refl _), List.take_of_length_le (by rw [h.lp]; exact Nat.le_refl _)] at h1
  rw [List.take_of_length_le (Nat.le_refl _), List.take_of_length_le (by rw [h.lq]; exact Nat.le_refl _)] at h2
  exact ⟨by rw [h1]; simp [keys, Function.comp_def], by rw [h2]; simp [Function.comp_def]⟩
theorem Blk.rd {β : Type} {f : β → Value} {w : World} {g : Nat} {T : TypeId} {l : List β} (h : Blk w g T (l.map f)) : Rd f w.heap.size w (some ⟨g, 0, none⟩) l := fun _ =>
  ⟨g, 0, rfl, h.lt, fun j hj => by rw [Nat.zero_add, h.cell, List.getElem?_map, List.getElem?_eq_getElem hj]; rfl⟩

set_option maxHeartbeats 1000000 in
set_option maxRecDepth 100000 in
theorem zz_walk (a0 a1 a2 a3 : Option Addr) (c0 c1 c2 c3 : Nat) (xs ys : List ByteArray) (cs ds : List Int) (hx : cs.length = xs.length) (hy : ds.length = ys.length) (lx : xs.length ≤ 524288) (ly : ys.length ≤ 524288)
    (sx : Srt ltB xs) (sy : Srt ltB ys) (w : World) (r0 : Rd S w.heap.size w a0 xs) (r1 : Rd U w.heap.size w a1 cs) (r2 : Rd S w.heap.size w a2 ys) (r3 : Rd U w.heap.size w a3 ds) :
    Calls Try.prog 8 #[.slice a0 xs.length c0, .slice a1 cs.length c1, .slice a2 ys.length c2, .slice a3 ds.length c3] w fun e w' => ZZed w (xs.zip cs) (ys.zip ds) e w' := by
  have HX := Lib.hid hx
  have HY := Lib.hid hy
  have hb1 := build_any a0 a1 c0 c1 xs cs hx (by omega) w r0 r1
  have H1 := Lib.hid hb1
  clear hb1 hx hy
  go_enter Try.func8, Try.ntmps8
  go_wp2_with fail
  refine H1.out.mono ?_
  clear H1
  rintro e w1 ⟨v1, rfl, e1, b1⟩
  have H2 := Lib.hid (build_any a2 a3 c2 c3 ys ds HY.out (by omega) w1 ((r2.below b1).mono b1.size) ((r3.below b1).mono b1.size))
  go_wp2_with fail
  refine H2.out.mono ?_
  clear H2
  rintro e w2 ⟨v2, rfl, e2, b2⟩
  obtain ⟨g1, hg1, hg12, e1', b12⟩ := builds_fit e1 b1 b2
  have hm := merge_walk w.heap.size g1 w1.heap.size v1 v2 (xs.zip cs) (ys.zip ds) (by unfold Hid; rw [keys_zip HX.out]; exact sx) (by unfold Hid; rw [keys_zip HY.out]; exact sy) (by rw [zip_length HX.out]; omega) (by rw [zip_length HY.out]; omega) w2 e1' e2 hg1 hg12 b12.size
  rw [zip_length HX.out, zip_length HY.out] at hm
  have H3 := Lib.hid hm
  clear hm
  go_wp2_with fail
  refine H3.out.mono ?_
  clear H3
  rintro e w3 ⟨R, va, vcap, rfl, hR, hrd, hRl, b3⟩
  rw [zip_length HX.out, zip_length HY.out] at hRl
  have hb := b12.trans b3
  clear e1 e2 e1' b1 b2 b12 b3 r0 r1 r2 r3
  have hmk1 := fun (w : World) => make22 R.length (by omega) w
  have hmk2 := fun (w : World) => make23 R.length (by omega) w
  have hW : Below w.heap.size w w3 := hb
  go_wp2
  clear hmk1 hmk2
  go_loopw [13] (fun i w4 => ∃ (k : Nat) (ps qs : List Value), k ≤ R.length ∧ i = .int .i64 k ∧ Blk w4 w3.heap.size 9 ps ∧ Blk w4 (w3.heap.size + 1) 29 qs ∧ Below w3.heap.size w3 w4 ∧ Hid (Cop R ps qs k)) (fun i _ => R.length - (intOf i).toNat)
  case atStart =>
    have bA : Below w3.heap.size w3 (w3.alloc (.cells (madeCells #[.string ⟨#[]⟩] R.length) 9)) := (Below.refl _ _).alloc (Nat.le_refl _) _
    have hq := blk_new (w3.alloc (.cells (madeCells #[.string ⟨#[]⟩] R.length) 9)) (madeCells #[.int .u64 0] R.length) 29
    refine ⟨0, (madeCells #[.string ⟨#[]⟩] R.length).toList, (madeCells #[.int .u64 0] R.length).toList, by omega, rfl, (blk_new w3 _ 9).alloc _, ?_, bA.alloc bA.size _, ⟨by simp [size_madeCells], by simp [size_madeCells], rfl, rfl⟩⟩
    simpa using hq
  case round =>
    obtain ⟨k, ps, qs, hk, rfl, kp, kq, hbel, hcop⟩ := hrel
    by_cases hlt : k < R.length
    · obtain ⟨g, rfl, hg, hc⟩ := hrd (fun e => by rw [e] at hlt; simp at hlt)
      obtain ⟨X, C, HE⟩ : ∃ X C, Hid (R[k] = (X, C)) := ⟨R[k].1, R[k].2, by unfold Hid; rfl⟩
      have x0 := (hbel.cell (p := ⟨g, k * 2, none⟩) hg).trans ((hc k hlt).1.trans (by rw [HE.out]))
      have x1 := (hbel.cell (p := ⟨g, k * 2 + 1, none⟩) hg).trans ((hc k hlt).2.trans (by rw [HE.out]))
      have f0 := kp.free k
      have f1 := kq.free k
      obtain ⟨Z0, hZ0⟩ : ∃ Z, ps[k]? = some Z := ⟨_, List.getElem?_eq_getElem (by rw [hcop.out.lp]; exact hlt)⟩
      obtain ⟨Z1, hZ1⟩ : ∃ Z, qs[k]? = some Z := ⟨_, List.getElem?_eq_getElem (by rw [hcop.out.lq]; exact hlt)⟩
      have z0 := (kp.cell k).trans hZ0
      have z1 := (kq.cell k).trans hZ1
      clear hZ0 hZ1 hc
      go_wp2
      go_roundw
      case rel => exact ⟨k + 1, _, _, by omega, by go_num, (kp.set k (.string X)).set_other _ _ (by simp), (kq.set_other ⟨w3.heap.size, k, none⟩ (.string X) (by simp)).set k (.int .u64 C), (hbel.setCell (Nat.le_refl _) _).setCell (by simp) _, hcop.out.step hlt HE.out⟩
      case measure => simp [intOf]; omega
    · have hkR : k = R.length := by omega
      have HK := Lib.hid hkR
      clear hkR
      go_wp2
      go_ret2
      have hc := hcop.out
      rw [HK.out] at hc
      obtain ⟨d1, d2⟩ := hc.done
      rw [d1] at kp
      rw [d2] at kq
      exact ⟨R, _, _, rfl, hR, by rw [zip_length HX.out, zip_length HY.out]; exact hRl, kp.rd, kq.rd, hW.trans (hbel.mono hW.size)⟩
end Go.Proofs.Qxb6625905a
