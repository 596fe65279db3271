/-
  Seat b6625905a: THE WALK of mergeEntries.
-/
import Derived.Test.Qxb6625905aFill
namespace Go.Proofs.Qxb6625905a
open Go.RowKit Plain

/-- The slice at a may be read as the entries R, two cells each. -/
def RdE (B : Nat) (w : World) (a : Option Addr) (R : List Ent) : Prop :=
  R ≠ [] → ∃ g, a = some ⟨g, 0, none⟩ ∧ g < B ∧ ∀ k (h : k < R.length), w.cell? ⟨g, k * 2, none⟩ = some (.string R[k].1) ∧ w.cell? ⟨g, k * 2 + 1, none⟩ = some (.int .u64 R[k].2)
theorem Ents.read {w : World} {a : Option Addr} {g : Nat} {A : List Ent} (h : Ents w a g A) : RdE w.heap.size w a A := fun hne => by
  obtain ⟨ha, hb⟩ := h hne
  exact ⟨g, ha, hb.lt, fun k hk => ⟨by rw [hb.cell, flat_key hk], by rw [hb.cell, flat_cnt hk]⟩⟩

/-- What mergeEntries leaves. -/
def Merged (base : Nat) (w : World) (A B : List Ent) (e : Ending) (w' : World) : Prop :=
  ∃ (R : List Ent) (a : Option Addr) (cap : Nat), e = .returned (.slice a R.length cap) ∧ Mrg ltB A B R ∧ RdE w'.heap.size w' a R ∧ R.length ≤ A.length + B.length ∧ Below base w w'

/-! ### The first pass's steps -/
theorem flat_set {p : ByteArray} {c d : Int} : ∀ {L : List Ent} {i : Nat}, L[i]? = some (p, d) → flat (L.set i (p, c)) = (flat L).set (i * 2 + 1) (.int .u64 c)
  | [], i, h => by simp at h
  | e :: r, 0, h => by
    simp at h
    subst h
    rfl
  | e :: r, i + 1, h => by
    have ih := flat_set (c := c) (L := r) (i := i) (by simpa using h)
    show flat (e :: r.set i (p, c)) = _
    have e1 : ∀ (x : Ent) (l : List Ent), flat (x :: l) = .string x.1 :: .int .u64 x.2 :: flat l := fun _ _ => rfl
    rw [e1, e1, ih, show (i + 1) * 2 + 1 = (i * 2 + 1) + 1 + 1 by omega]
    rfl

theorem step_hit {base g1 g2 i t q : Nat} {A B : List Ent} {w wr : World} {Y : ByteArray} {C D : Int} {o : Obj} (hA : Srt ltB (keys A)) (hB : Srt ltB (keys B)) (hb1 : base ≤ g1) (h12 : g1 ≠ g2) (hbw : base ≤ w.heap.size)
    (hi : i < A.length) (ht : t < B.length) (HE : B[t] = (Y, C)) (HY : (upd A (B.take t))[i]'(by rw [length_upd]; exact hi) = (Y, D)) (k1 : Blk wr g1 34 (flat (upd A (B.take t)))) (k2 : Blk wr g2 34 (flat B)) (hbel : Below base w wr) (hinv : Inv ltB A B i t) :
    cm A (B.take (t + 1)) = cm A (B.take t) ∧ Ents (((wr.alloc o).drewN q).setCell ⟨g1, i * 2 + 1, none⟩ (.int .u64 (max D C))) (some ⟨g1, 0, none⟩) g1 (upd A (B.take (t + 1))) ∧
      Ents (((wr.alloc o).drewN q).setCell ⟨g1, i * 2 + 1, none⟩ (.int .u64 (max D C))) (some ⟨g2, 0, none⟩) g2 B ∧ Below base w (((wr.alloc o).drewN q).setCell ⟨g1, i * 2 + 1, none⟩ (.int .u64 (max D C))) ∧ Inv ltB A B (i + 1) (t + 1) := by
  have hk : A[i].1 = B[t].1 := by
    have h1 := HY
    rw [upd_at hi] at h1
    rw [HE]
    exact (Prod.mk.inj h1).1
  obtain ⟨u1, u2⟩ := upd_hit loB hA hB hi ht hk
  have hAi : A[i] = (Y, D) := u1.symm.trans HY
  refine ⟨cm_hit ht (by rw [← hk]; exact mem_keys (List.getElem_mem hi)), Ents.of rfl ?_, Ents.of rfl (((k2.alloc o).drewN q).set_other _ _ (fun e => h12 e.symm)), ?_, inv_hit hA hB hinv hi ht hk⟩
  · rw [u2, hAi, HE]
    show Blk _ g1 34 (flat ((upd A (B.take t)).set i (Y, max D C)))
    rw [flat_set (d := D) (by rw [List.getElem?_eq_getElem (by rw [length_upd]; exact hi), HY])]
    exact ((k1.alloc o).drewN q).set _ _
  · exact Below.setCell (below_drewN (hbel.alloc (Nat.le_trans hbw hbel.size) o) q) hb1 _

theorem step_miss {base g1 g2 i t q : Nat} {A B : List Ent} {a1 : Option Addr} {w wr : World} {X : ByteArray} {C : Int} {o : Obj} (hA : Srt ltB (keys A)) (hbw : base ≤ w.heap.size)
    (ht : t < B.length) (HE : B[t] = (X, C)) (hm : ∀ hi : i < A.length, ltB X A[i].1 = true) (e1 : Ents wr a1 g1 (upd A (B.take t))) (k2 : Blk wr g2 34 (flat B)) (hbel : Below base w wr) (hinv : Inv ltB A B i t) :
    cm A (B.take (t + 1)) = cm A (B.take t) + 1 ∧ Ents ((wr.alloc o).drewN q) a1 g1 (upd A (B.take (t + 1))) ∧
      Ents ((wr.alloc o).drewN q) (some ⟨g2, 0, none⟩) g2 B ∧ Below base w ((wr.alloc o).drewN q) ∧ Inv ltB A B i (t + 1) := by
  obtain ⟨m1, m2⟩ := inv_miss loB hA hinv ht (by rw [HE]; exact hm)
  refine ⟨cm_miss ht m2, ?_, Ents.of rfl ((k2.alloc o).drewN q), below_drewN (hbel.alloc (Nat.le_trans hbw hbel.size) o) q, m1⟩
  rw [upd_miss ht m2]
  exact fun hne => ⟨(e1 hne).1, ((e1 hne).2.alloc o).drewN q⟩

theorem upd_key {A l : List Ent} {i : Nat} {Y : ByteArray} {D : Int} (hi : i < A.length) (HY : (upd A l)[i]'(by rw [length_upd]; exact hi) = (Y, D)) : A[i].1 = Y := by
  rw [upd_at hi] at HY
  exact (Prod.mk.inj HY).1
theorem ltB_of {X Y : ByteArray} (h1 : ¬ Y = X) (h2 : Op.bytesLess Y.toList X.toList = false) : ltB X Y = true := by
  cases c : ltB X Y with
  | true => rfl
  | false => exact absurd (loB.tri Y X h2 c) h1

theorem merged_none {base g1 : Nat} {A B : List Ent} {a1 : Option Addr} {w wr : World} (hA : Srt ltB (keys A)) (h0 : cm A B = 0) (e1 : Ents wr a1 g1 (upd A B)) (hbel : Below base w wr) :
    Merged base w A B (.returned (.slice a1 A.length A.length)) wr :=
  ⟨upd A B, a1, A.length, by rw [length_upd], mrg_full hA h0, e1.read, by rw [length_upd]; omega, hbel⟩

theorem merged_some {base h n m i k cap : Nat} {A B : List Ent} {ds : List Value} {w wr : World} (hA : Srt ltB (keys A)) (hB : Srt ltB (keys B)) (hn : (mrg ltB A B).length = n + m) (hf : Fill (upd A B) B (mrg ltB A B) (mrg ltB A B).length ds i 0 k) (hb : Blk wr h 34 ds) (hbel : Below base w wr) :
    Merged base w A B (.returned (.slice (some ⟨h, 0, none⟩) (n + m) cap)) wr := by
  refine ⟨mrg ltB A B, _, cap, by rw [hn], mrg_ok loB hA hB, fun _ => ⟨h, rfl, hb.lt, fun j hj => ?_⟩, ?_, hbel⟩
  · have hd := hf.done
    have e1 : ds[j * 2]? = (flat (mrg ltB A B))[j * 2]? := by rw [← hd, List.getElem?_take_of_lt (by omega)]
    have e2 : ds[j * 2 + 1]? = (flat (mrg ltB A B))[j * 2 + 1]? := by rw [← hd, List.getElem?_take_of_lt (by omega)]
    exact ⟨by rw [hb.cell, e1, flat_key hj], by rw [hb.cell, e2, flat_cnt hj]⟩
  · rw [mrg_length loB hA hB]
    have := cm_le A B
    unfold cm at this
    omega

theorem fill_rel {base h g2 : Nat} {B : List Ent} {ds : List Value} {w wr : World} (hb : Blk wr h 34 ds) (k2 : Blk wr g2 34 (flat B)) (hbel : Below base w wr) (hbh : base ≤ h) (hg : g2 < h) (K q : Nat) (X : ByteArray) (C : Int) :
    Blk (((wr.drewN q).setCell ⟨h, K * 2, none⟩ (.string X)).setCell ⟨h, K * 2 + 1, none⟩ (.int .u64 C)) h 34 ((ds.set (K * 2) (.string X)).set (K * 2 + 1) (.int .u64 C)) ∧
    Blk (((wr.drewN q).setCell ⟨h, K * 2, none⟩ (.string X)).setCell ⟨h, K * 2 + 1, none⟩ (.int .u64 C)) g2 34 (flat B) ∧
    Below base w (((wr.drewN q).setCell ⟨h, K * 2, none⟩ (.string X)).setCell ⟨h, K * 2 + 1, none⟩ (.int .u64 C)) :=
  ⟨((hb.drewN q).set _ _).set _ _, ((k2.drewN q).set_other _ _ (Nat.ne_of_lt hg)).set_other _ _ (Nat.ne_of_lt hg), ((below_drewN hbel q).setCell hbh _).setCell hbh _⟩

theorem upd_ne {A : List Ent} {i : Nat} (h : i < A.length) (l : List Ent) : upd A l ≠ [] := fun e => by
  have := congrArg List.length e
  rw [length_upd, List.length_nil] at this
  omega

set_option maxHeartbeats 400000 in
set_option maxRecDepth 100000 in
theorem merge_walk (base g1 g2 : Nat) (a1 a2 : Option Addr) (A B : List Ent) (hA : Hid (Srt ltB (keys A))) (hB : Hid (Srt ltB (keys B))) (nA : A.length ≤ 1048576) (nB : B.length ≤ 1048576) (w : World)
    (h1 : Ents w a1 g1 A) (h2 : Ents w a2 g2 B) (hb1 : base ≤ g1) (h12 : g1 ≠ g2) (hbw : base ≤ w.heap.size) :
    Calls Try.prog 12 #[.slice a1 A.length A.length, .slice a2 B.length B.length] w fun e w' => Merged base w A B e w' := by
  go_enter Try.func12, Try.ntmps12
  go_wp2
  go_loopw [5, 6, 14] (fun ms si st wr => ∃ t i m : Nat, t ≤ B.length ∧ i ≤ A.length ∧ m ≤ 1048576 ∧ ms = .int .i64 m ∧ si = .int .i64 i ∧ st = .int .i64 t ∧
      Ents wr a1 g1 (upd A (B.take t)) ∧ Ents wr a2 g2 B ∧ Below base w wr ∧ Hid (Inv ltB A B i t ∧ m = cm A (B.take t))) (fun _ _ st _ => B.length - (intOf st).toNat)
  case atStart => exact ⟨0, 0, 0, by omega, by omega, by omega, rfl, rfl, rfl, by rw [List.take_zero, upd_nil]; exact h1, h2, Below.refl _ _, inv_zero A B, rfl⟩
  case round =>
    obtain ⟨t, i, m, ht, hi, hm, rfl, rfl, rfl, e1, e2, hbel, hinvm⟩ := hrel
    clear h1 h2
    by_cases hlt : t < B.length
    · obtain ⟨rfl, k2⟩ := e2 (fun e => by rw [e] at hlt; simp at hlt)
      have hinv : Hid (Inv ltB A B i t) := hinvm.out.1
      have HM' : Hid (m = cm A (B.take t)) := hinvm.out.2
      have hm' : m ≤ t := by rw [HM'.out]; exact Nat.le_trans (cm_le _ _) (by rw [List.length_take]; omega)
      clear hinvm
      obtain ⟨X, C, HE⟩ : ∃ X C, Hid (B[t] = (X, C)) := ⟨B[t].1, B[t].2, by unfold Hid; rfl⟩
      have c0 : wr.cell? ⟨g2, t * 2, none⟩ = some (.string X) := by rw [k2.cell, flat_key hlt, HE.out]
      have c1 : wr.cell? ⟨g2, t * 2 + 1, none⟩ = some (.int .u64 C) := by rw [k2.cell, flat_cnt hlt, HE.out]
      go_wp2
      clear c0 c1
      go_loopw [6] (fun si w2 => ∃ i q : Nat, i ≤ A.length ∧ si = .int .i64 i ∧ w2 = (wr.alloc (.cells #[.string X, .int .u64 C] 34)).drewN q ∧ Hid (Inv ltB A B i t)) (fun si _ => A.length - (intOf si).toNat)
      case atStart => exact ⟨i, 0, hi, rfl, rfl, hinv⟩
      case round =>
        clear hinv hi
        obtain ⟨i, q, hi, rfl, rfl, hinv⟩ := hrel
        by_cases hin : i < A.length
        · obtain ⟨rfl, k1⟩ := e1 (upd_ne hin _)
          obtain ⟨Y, D, HY⟩ : ∃ Y D, Hid ((upd A (B.take t))[i]'(by rw [length_upd]; exact hin) = (Y, D)) := ⟨_, _, by unfold Hid; rfl⟩
          have hg1 := k1.lt
          have d0 : wr.cell? ⟨g1, i * 2, none⟩ = some (.string Y) := by rw [k1.cell, flat_key (by rw [length_upd]; exact hin), HY.out]
          have d1 : wr.cell? ⟨g1, i * 2 + 1, none⟩ = some (.int .u64 D) := by rw [k1.cell, flat_cnt (by rw [length_upd]; exact hin), HY.out]
          by_cases hYX : Y = X
          · subst hYX
            have f1 := k1.free (i * 2 + 1)
            go_wp2
            go_quiet (fail)
            go_wp2
            go_quiet (fail)
            go_wp2
            go_region
            all_goals go_wp2
            go_roundw
            case rel =>
              obtain ⟨r1, r2, r3, r4, r5⟩ := step_hit hA.out hB.out hb1 h12 hbw hin hlt HE.out HY.out k1 k2 hbel hinv.out
              exact ⟨t + 1, i + 1, m, by omega, by omega, by omega, rfl, by go_num, by go_num, r2, r3, r4, r5, by rw [r1]; exact HM'.out⟩
            case measure => simp [intOf]; omega
          · have hne : (Y.toList == X.toList) = false := by rw [eqB]; simpa using hYX
            cases hYl : Op.bytesLess Y.toList X.toList
            · have HM : Hid (∀ h : i < A.length, ltB X A[i].1 = true) := fun h => by rw [upd_key h HY.out]; exact ltB_of hYX hYl
              clear hYX
              go_wp2
              go_quiet (fail)
              go_wp2
              go_quiet (fail)
              go_wp2
              go_roundw
              case rel =>
                obtain ⟨r1, r2, r3, r4, r5⟩ := step_miss hA.out hbw hlt HE.out HM.out e1 k2 hbel hinv.out
                exact ⟨t + 1, i, m + 1, by omega, by omega, by omega, by go_num, rfl, by go_num, r2, r3, r4, r5, by rw [r1, ← HM'.out]⟩
              case measure => simp [intOf]; omega
            · have HM : Hid (ltB A[i].1 B[t].1 = true) := by unfold Hid; rw [upd_key hin HY.out, HE.out]; exact hYl
              clear hYX
              go_wp2
              go_quiet (fail)
              go_wp2
              go_roundw
              case rel => exact ⟨i + 1, q + nq, by omega, by go_num, rfl, inv_skip loB hB.out hinv.out hin hlt HM.out⟩
              case measure => simp [intOf]; omega
        · have hlt' : decide ((i : Int) < (A.length : Int)) = false := by simpa using hin
          go_wp2
          go_quiet (fail)
          go_wp2
          go_quiet (fail)
          go_wp2
          go_roundw
          case rel =>
            obtain ⟨r1, r2, r3, r4, r5⟩ := step_miss hA.out hbw hlt HE.out (fun h => absurd h hin) e1 k2 hbel hinv.out
            exact ⟨t + 1, i, m + 1, by omega, by omega, by omega, by go_num, rfl, by go_num, r2, r3, r4, r5, by rw [r1, ← HM'.out]⟩
          case measure => simp [intOf]; omega
    · have htB : t = B.length := by omega
      have HM : Hid (m = cm A B) := by have := hinvm.out.2; rw [htB, List.take_length] at this; exact this
      have e1' : Ents wr a1 g1 (upd A B) := by rw [htB, List.take_length] at e1; exact e1
      clear hinvm htB e1 hi
      by_cases hz : m = 0
      · have hz' : ((m : Int) == 0) = true := by rw [beq_iff_eq]; omega
        have HZ : Hid (m = 0) := hz
        clear hz
        go_wp2
        go_ret
        exact merged_none hA.out (HM.out.symm.trans HZ.out) e1' hbel
      · have hz' : ((m : Int) == 0) = false := by rw [beq_eq_false_iff_ne]; omega
        have hm1 : 1 ≤ m := by omega
        clear hz
        have hgr := grow_calls a1 g1 (upd A B) m hm1 (by rw [length_upd]; omega) wr e1'
        rw [length_upd] at hgr
        have HG := Lib.hid hgr
        clear hgr
        go_wp2_with fail
        refine HG.out.mono ?_
        clear HG
        rintro e w3 ⟨cap, Z, rfl, hcap, hcap2, hZ, hblk, hb3⟩
        have hBne : B ≠ [] := fun e => by rw [HM.out, e] at hm1; exact absurd hm1 (by simp [cm])
        obtain ⟨rfl, k2⟩ := e2 hBne
        have hg2 := k2.lt
        have hbW : base ≤ wr.heap.size := Nat.le_trans hbw hbel.size
        have k2' : Blk w3 g2 34 (flat B) := k2.below hb3 hg2
        have hb0 : Below base w w3 := hbel.trans (hb3.mono hbW)
        have HF : Hid (Fill (upd A B) B (mrg ltB A B) (mrg ltB A B).length (flat (upd A B) ++ Z) A.length B.length (mrg ltB A B).length ∧ (mrg ltB A B).length = A.length + m) := by
          have hl : (mrg ltB A B).length = A.length + m := by rw [mrg_length loB hA.out hB.out, HM.out]; rfl
          exact ⟨Fill.start rfl (by rw [hl, List.length_append, flat_length, length_upd]; have := hZ.out; omega), hl⟩
        clear e2 k2 hbel hb3 hZ e1'
        go_wp2
        go_loopw [6, 10, 11] (fun si sj sk w4 => ∃ (I J K : Nat) (ds : List Value), I ≤ A.length ∧ J ≤ B.length ∧ K ≤ A.length + m ∧ si = .int .i64 ((I : Int) - 1) ∧ sj = .int .i64 ((J : Int) - 1) ∧ sk = .int .i64 ((K : Int) - 1) ∧
            Blk w4 wr.heap.size 34 ds ∧ Blk w4 g2 34 (flat B) ∧ Below base w w4 ∧ Hid (Fill (upd A B) B (mrg ltB A B) (mrg ltB A B).length ds I J K)) (fun si sj _ _ => (intOf si + 1).toNat + (intOf sj + 1).toNat)
        case atStart =>
          exact ⟨A.length, B.length, A.length + m, _, by omega, by omega, by omega, rfl, rfl, by go_num, hblk, k2', hb0, by rw [← HF.out.2]; exact HF.out.1⟩
        case round =>
          clear hblk k2' hb0
          obtain ⟨I, J, K, ds, hI, hJ, hK, rfl, rfl, rfl, hblk, k2, hbel, hfill⟩ := hrel
          by_cases hJ0 : J = 0
          · subst hJ0
            go_wp2
            go_ret
            exact merged_some hA.out hB.out HF.out.2 hfill.out hblk hbel
          · obtain ⟨J, rfl⟩ : ∃ j, J = j + 1 := ⟨J - 1, by omega⟩
            obtain ⟨K, rfl⟩ := hfill.out.pos
            have hJB : J < B.length := by omega
            obtain ⟨X, C, HE⟩ : ∃ X C, Hid (B[J] = (X, C)) := ⟨B[J].1, B[J].2, by unfold Hid; rfl⟩
            have c0 := (k2.cell (J * 2)).trans ((flat_key hJB).trans (by rw [HE.out]))
            have c1 := (k2.cell (J * 2 + 1)).trans ((flat_cnt hJB).trans (by rw [HE.out]))
            have f0 := hblk.free (K * 2)
            have f1 := hblk.free (K * 2 + 1)
            have hsz : (A.length + m) * 2 ≤ ds.length := by have := hfill.out.size; rw [HF.out.2] at this; exact this
            obtain ⟨Z0, hZ0⟩ : ∃ Z, ds[K * 2]? = some Z := ⟨_, List.getElem?_eq_getElem (by omega)⟩
            obtain ⟨Z1, hZ1⟩ : ∃ Z, ds[K * 2 + 1]? = some Z := ⟨_, List.getElem?_eq_getElem (by omega)⟩
            have z0 := (hblk.cell (K * 2)).trans hZ0
            have z1 := (hblk.cell (K * 2 + 1)).trans hZ1
            clear hZ0 hZ1 hJ0 hsz
            by_cases hI0 : I = 0
            · subst hI0
              have HL : Hid (left ltB (upd A B) B 0 (J + 1) = left ltB (upd A B) B 0 J ++ [(X, C)]) := by unfold Hid; rw [left_zero hJB, HE.out]
              go_wp2
              go_quiet (fail)
              go_wp2
              go_roundw
              case rel =>
                obtain ⟨r1, r2, r3⟩ := fill_rel hblk k2 hbel hbW hg2 K nq X C
                exact ⟨0, J, K, _, by omega, by omega, by omega, by go_num, by go_num, by go_num, r1, r2, r3, hfill.out.step (Nat.le_refl _) (by omega) HL.out⟩
              case measure => simp [intOf]
            · obtain ⟨I, rfl⟩ : ∃ j, I = j + 1 := ⟨I - 1, by omega⟩
              have hIA : I < (upd A B).length := by rw [length_upd]; omega
              obtain ⟨Y, D, HY⟩ : ∃ Y D, Hid ((upd A B)[I] = (Y, D)) := ⟨_, _, by unfold Hid; rfl⟩
              have q0 := (hblk.cell (I * 2)).trans ((take_flat_key hfill.out.head hIA).1.trans (by rw [HY.out]))
              have q1 := (hblk.cell (I * 2 + 1)).trans ((take_flat_key hfill.out.head hIA).2.trans (by rw [HY.out]))
              clear hI0
              by_cases hYX : Y = X
              · subst hYX
                have hirr : Op.bytesLess Y.toList Y.toList = false := loB.irrefl Y
                have HL : Hid (left ltB (upd A B) B (I + 1) (J + 1) = left ltB (upd A B) B I J ++ [(Y, D)]) := by unfold Hid; rw [left_same loB hIA hJB (by rw [HY.out, HE.out]), HY.out]
                go_wp2
                go_quiet (fail)
                go_wp2
                go_quiet (fail)
                go_wp2
                go_roundw
                case rel =>
                  obtain ⟨r1, r2, r3⟩ := fill_rel hblk k2 hbel hbW hg2 K _ Y D
                  exact ⟨I, J, K, _, by omega, by omega, by omega, by go_num, by go_num, by go_num, r1, r2, r3, hfill.out.step (by omega) (by omega) HL.out⟩
                case measure => simp [intOf]; omega
              · have hne : (Y.toList == X.toList) = false := by rw [eqB]; simpa using hYX
                cases hYl : Op.bytesLess Y.toList X.toList
                · have HL : Hid (left ltB (upd A B) B (I + 1) (J + 1) = left ltB (upd A B) B I (J + 1) ++ [(Y, D)]) := by
                    unfold Hid
                    rw [left_more hIA hJB (by rw [HY.out, HE.out]; exact hYl) (by rw [HY.out, HE.out]; exact hYX), HY.out]
                  clear hYX
                  go_wp2
                  go_quiet (fail)
                  go_wp2
                  go_quiet (fail)
                  go_wp2
                  go_roundw
                  case rel =>
                    obtain ⟨r1, r2, r3⟩ := fill_rel hblk k2 hbel hbW hg2 K _ Y D
                    exact ⟨I, J + 1, K, _, by omega, by omega, by omega, by go_num, by go_num, by go_num, r1, r2, r3, hfill.out.step (by omega) (by omega) HL.out⟩
                  case measure => simp [intOf]
                · have HL : Hid (left ltB (upd A B) B (I + 1) (J + 1) = left ltB (upd A B) B (I + 1) J ++ [(X, C)]) := by
                    unfold Hid
                    rw [left_less hIA hJB (by rw [HY.out, HE.out]; exact hYl), HE.out]
                  clear hYX
                  go_wp2
                  go_quiet (fail)
                  go_wp2
                  go_roundw
                  case rel =>
                    obtain ⟨r1, r2, r3⟩ := fill_rel hblk k2 hbel hbW hg2 K _ X C
                    exact ⟨I + 1, J, K, _, by omega, by omega, by omega, by go_num, by go_num, by go_num, r1, r2, r3, hfill.out.step (by omega) (by omega) HL.out⟩
                  case measure => simp [intOf]
end Go.Proofs.Qxb6625905a
