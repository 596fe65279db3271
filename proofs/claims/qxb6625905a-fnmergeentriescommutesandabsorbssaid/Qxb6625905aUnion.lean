/-
  Seat b6625905a: THE WALK of FnMergeEntriesIsMaxUnion.
-/
import Derived.Test.Qxb6625905aTop
namespace Go.Proofs.Qxb6625905a
open Go.RowKit Plain

theorem keys_length (R : List Ent) : (keys R).length = R.length := by simp [keys]
theorem rd_at {β : Type} {f : β → Value} {B : Nat} {w : World} {a : Option Addr} {xs : List β} (h : Rd f B w a xs) {i : Nat} {x : β} (hi : xs[i]? = some x) : ∃ b off, a = some ⟨b, off, none⟩ ∧ w.cell? ⟨b, off + i, none⟩ = some (f x) := by
  have hl : i < xs.length := (List.getElem?_eq_some_iff.1 hi).1
  obtain ⟨b, off, ha, _, hc⟩ := h (fun e => by rw [e] at hl; simp at hl)
  refine ⟨b, off, ha, ?_⟩
  rw [hc i hl]
  rw [List.getElem?_eq_getElem hl] at hi
  rw [Option.some.inj hi]
theorem rd_new {β : Type} {f : β → Value} {B : Nat} {w : World} {g : Nat} {xs : List β} (h : Rd f B w (some ⟨g, 0, none⟩) xs) {i : Nat} {x : β} (hi : xs[i]? = some x) : w.cell? ⟨g, i, none⟩ = some (f x) := by
  obtain ⟨b, off, ha, hc⟩ := rd_at h hi
  have := Option.some.inj ha
  simp only [Addr.mk.injEq] at this
  obtain ⟨rfl, rfl, _⟩ := this
  rw [Nat.zero_add] at hc
  exact hc

theorem look_zip_none {xs : List ByteArray} {cs : List Int} (hl : cs.length = xs.length) {X : ByteArray} (h : X ∉ xs) : Plain.look (xs.zip cs) X = none := by
  rw [look_none, keys_zip hl]
  exact h
theorem look_zip_some {xs : List ByteArray} {cs : List Int} (hl : cs.length = xs.length) (hs : Srt ltB xs) {X : ByteArray} {i : Nat} (h : xs[i]? = some X) : ∃ E, cs[i]? = some E ∧ Plain.look (xs.zip cs) X = some E := by
  have hi : i < xs.length := (List.getElem?_eq_some_iff.1 h).1
  refine ⟨cs[i], List.getElem?_eq_getElem (by omega), ?_⟩
  have hm : (X, cs[i]) ∈ xs.zip cs := by
    have : (xs.zip cs)[i]? = some (X, cs[i]) := by
      rw [List.getElem?_zip_eq_some]
      exact ⟨h, List.getElem?_eq_getElem (by omega)⟩
    exact List.mem_of_getElem? this
  exact look_of_mem (by rw [keys_zip hl]; exact srt_nodup loB hs) hm
theorem look_at {A B R : List Ent} (h : Mrg ltB A B R) {k : Nat} {X : ByteArray} {C : Int} (hk : k < R.length) (he : R[k] = (X, C)) : some C = omax (Plain.look A X) (Plain.look B X) := by
  have hm : (X, C) ∈ R := he ▸ List.getElem_mem hk
  rw [← h.2 X]
  exact (look_of_mem (srt_nodup loB h.1) hm).symm
theorem fnd_in {xs : List ByteArray} {X : ByteArray} {r : Int} (h : Fnd xs X r) (hm : X ∈ xs) : ∃ k : Nat, r = k ∧ xs[k]? = some X := by
  rcases h with ⟨_, hn⟩ | hk
  · exact absurd hm hn
  · exact hk

set_option maxHeartbeats 4000000 in
set_option maxRecDepth 100000 in
theorem union_main (a0 a1 a2 a3 : Option Addr) (c0 c1 c2 c3 : Nat) (xs ys : List ByteArray) (cs ds : List Int) (hx : cs.length = xs.length) (hy : ds.length = ys.length) (lx : xs.length ≤ 65536) (ly : ys.length ≤ 65536)
    (w : World) (r0 : Rd S w.heap.size w a0 xs) (r1 : Rd U w.heap.size w a1 cs) (r2 : Rd S w.heap.size w a2 ys) (r3 : Rd U w.heap.size w a3 ds) :
    Calls Try.prog 3 #[.slice a0 xs.length c0, .slice a1 cs.length c1, .slice a2 ys.length c2, .slice a3 ds.length c3] w fun e w' => e = .returned (.bool true) ∧ Below w.heap.size w w' := by
  have HX := Lib.hid hx
  have HY := Lib.hid hy
  have e1 : ((xs.length : Int) != (cs.length : Int)) = false := by rw [bne_eq_false_iff_eq]; omega
  have e2 : ((ys.length : Int) != (ds.length : Int)) = false := by rw [bne_eq_false_iff_eq]; omega
  have lc : cs.length ≤ 65536 := by omega
  have ld : ds.length ≤ 65536 := by omega
  clear hx hy
  go_enter Try.func3, Try.ntmps3
  go_wp2_with fail
  refine (bytes5_any a0 a1 a2 a3 c0 cs.length c1 c2 ds.length c3 xs ys w.heap.size w r0 r2 (by omega) (by omega) (by omega) (by omega)).mono ?_
  rintro e w ⟨hb, rfl⟩
  rcases hb.cases with rfl | rfl
  rotate_left
  · go_wp2
    go_ret
    exact ⟨rfl, Below.refl _ _⟩
  go_wp2_with fail
  refine (fit_any a0 a1 a2 a3 c0 cs.length c1 c2 ds.length c3 xs ys _ _ r0 r2 lx lc ly ld).mono ?_
  rintro e w ⟨hb, rfl⟩
  rcases hb.cases with rfl | rfl
  rotate_left
  · go_wp2
    go_ret
    exact ⟨rfl, Below.refl _ _⟩
  go_wp2_with fail
  refine (sorted_any _ a0 c0 xs (by omega) _ r0).mono ?_
  rintro e w' ⟨s1, rfl, hs1, q1, rfl⟩
  cases s1
  · go_wp2
    go_ret
    exact ⟨rfl, below_drewN' _ _ _⟩
  go_wp2_with fail
  refine (sorted_any _ a2 c2 ys (by omega) _ (r2.below (below_drewN' _ _ q1))).mono ?_
  rintro e w' ⟨s2, rfl, hs2, q2, rfl⟩
  cases s2
  · go_wp2
    go_ret
    exact ⟨rfl, below_drewN' _ _ _⟩
  have SX : Hid (Srt ltB xs) := adj_srt loB xs (hs1.out.1 (by trivial))
  have SY : Hid (Srt ltB ys) := adj_srt loB ys (hs2.out.1 (by trivial))
  clear hs1 hs2 e1 e2
  have p0 := r0.below (below_drewN' w.heap.size w (q1 + q2))
  have nn := fun (w : World) => run_neq_slice_nil_any (P := Try.prog) w 22 9 a0 xs.length c0 0 0 Try.underlying22
  go_upto_if 72 with fail
  clear nn
  go_cut [0] from 21 (fun s wx => Cpy S (w.drewN (q1 + q2)) xs s wx)
  case first =>
    cases a0 with
    | none =>
      go_wp2
      go_meet
      exact ⟨none, c0, rfl, p0, Below.refl _ _⟩
    | some a =>
      have hmk := fun (w : World) => make22 xs.length (by omega) w
      go_wp2_with (refine wpList_cpy S 22 9 Try.underlying22 (by kernel_rfl) (fun _ => rfl) rfl (.tmp 76) (.tmp 77) rfl xs w.heap.size _ _ rfl rfl (.string ⟨#[]⟩) ?hg w.heap.size (w.drewN (q1 + q2)) ?hb (Nat.le_refl _) ?hsrc ?_)
      case hg => exact blk_new (w.drewN (q1 + q2)) _ 9
      case hb => exact (Below.refl w.heap.size (w.drewN (q1 + q2))).alloc (show w.heap.size ≤ (w.drewN (q1 + q2)).heap.size from Nat.le_refl _) _
      case hsrc => exact Rd.below p0 ((Below.refl w.heap.size (w.drewN (q1 + q2))).alloc (show w.heap.size ≤ (w.drewN (q1 + q2)).heap.size from Nat.le_refl _) _)
      intro w' hblk hb'
      clear hmk
      go_wp2
      go_meet
      exact ⟨_, _, rfl, hblk.rd, hb'⟩
  case rest =>
  obtain ⟨b0, k0, rfl, t0, hv1⟩ := hcut
  rename World => w1
  have hw1 : Below w.heap.size w w1 := (below_drewN' w.heap.size w (q1 + q2)).trans hv1
  clear r0 p0 hv1
  have p1 := r1.below hw1
  have nn := fun (w : World) => run_neq_slice_nil_any (P := Try.prog) w 23 29 a1 cs.length c1 0 0 Try.underlying23
  go_upto_if 81 with fail
  clear nn
  go_cut [1] from 21 (fun s wx => Cpy U w1 cs s wx)
  case first =>
    cases a1 with
    | none =>
      go_wp2
      go_meet
      exact ⟨none, c1, rfl, (p1.mono hw1.size), Below.refl _ _⟩
    | some a =>
      have hmk := fun (w : World) => make23 cs.length (by omega) w
      go_wp2_with (refine wpList_cpy U 23 29 Try.underlying23 (by kernel_rfl) (fun _ => rfl) rfl (.tmp 85) (.tmp 86) rfl cs w1.heap.size _ _ rfl rfl (.int .u64 0) ?hg w1.heap.size w1 ?hb (Nat.le_refl _) ?hsrc ?_)
      case hg => exact blk_new w1 _ 29
      case hb => exact (Below.refl w1.heap.size w1).alloc (show w1.heap.size ≤ w1.heap.size from Nat.le_refl _) _
      case hsrc => exact Rd.below (p1.mono hw1.size) ((Below.refl w1.heap.size w1).alloc (show w1.heap.size ≤ w1.heap.size from Nat.le_refl _) _)
      intro w' hblk hb'
      clear hmk
      go_wp2
      go_meet
      exact ⟨_, _, rfl, hblk.rd, hb'⟩
  case rest =>
  obtain ⟨b1, k1, rfl, t1, hv2⟩ := hcut
  rename World => w2
  have hw2 : Below w.heap.size w w2 := hw1.trans (hv2.mono hw1.size)
  replace t0 := (t0.below hv2).mono hv2.size
  clear r1 p1 hv2
  have p2 := r2.below hw2
  have nn := fun (w : World) => run_neq_slice_nil_any (P := Try.prog) w 22 9 a2 ys.length c2 0 0 Try.underlying22
  go_upto_if 90 with fail
  clear nn
  go_cut [2] from 21 (fun s wx => Cpy S w2 ys s wx)
  case first =>
    cases a2 with
    | none =>
      go_wp2
      go_meet
      exact ⟨none, c2, rfl, (p2.mono hw2.size), Below.refl _ _⟩
    | some a =>
      have hmk := fun (w : World) => make22 ys.length (by omega) w
      go_wp2_with (refine wpList_cpy S 22 9 Try.underlying22 (by kernel_rfl) (fun _ => rfl) rfl (.tmp 94) (.tmp 95) rfl ys w2.heap.size _ _ rfl rfl (.string ⟨#[]⟩) ?hg w2.heap.size w2 ?hb (Nat.le_refl _) ?hsrc ?_)
      case hg => exact blk_new w2 _ 9
      case hb => exact (Below.refl w2.heap.size w2).alloc (show w2.heap.size ≤ w2.heap.size from Nat.le_refl _) _
      case hsrc => exact Rd.below (p2.mono hw2.size) ((Below.refl w2.heap.size w2).alloc (show w2.heap.size ≤ w2.heap.size from Nat.le_refl _) _)
      intro w' hblk hb'
      clear hmk
      go_wp2
      go_meet
      exact ⟨_, _, rfl, hblk.rd, hb'⟩
  case rest =>
  obtain ⟨b2, k2, rfl, t2, hv3⟩ := hcut
  rename World => w3
  have hw3 : Below w.heap.size w w3 := hw2.trans (hv3.mono hw2.size)
  replace t0 := (t0.below hv3).mono hv3.size
  replace t1 := (t1.below hv3).mono hv3.size
  clear r2 p2 hv3
  have p3 := r3.below hw3
  have nn := fun (w : World) => run_neq_slice_nil_any (P := Try.prog) w 23 29 a3 ds.length c3 0 0 Try.underlying23
  go_upto_if 99 with fail
  clear nn
  go_cut [3] from 21 (fun s wx => Cpy U w3 ds s wx)
  case first =>
    cases a3 with
    | none =>
      go_wp2
      go_meet
      exact ⟨none, c3, rfl, (p3.mono hw3.size), Below.refl _ _⟩
    | some a =>
      have hmk := fun (w : World) => make23 ds.length (by omega) w
      go_wp2_with (refine wpList_cpy U 23 29 Try.underlying23 (by kernel_rfl) (fun _ => rfl) rfl (.tmp 103) (.tmp 104) rfl ds w3.heap.size _ _ rfl rfl (.int .u64 0) ?hg w3.heap.size w3 ?hb (Nat.le_refl _) ?hsrc ?_)
      case hg => exact blk_new w3 _ 29
      case hb => exact (Below.refl w3.heap.size w3).alloc (show w3.heap.size ≤ w3.heap.size from Nat.le_refl _) _
      case hsrc => exact Rd.below (p3.mono hw3.size) ((Below.refl w3.heap.size w3).alloc (show w3.heap.size ≤ w3.heap.size from Nat.le_refl _) _)
      intro w' hblk hb'
      clear hmk
      go_wp2
      go_meet
      exact ⟨_, _, rfl, hblk.rd, hb'⟩
  case rest =>
  obtain ⟨b3, k3, rfl, t3, hv4⟩ := hcut
  rename World => w4
  have hw4 : Below w.heap.size w w4 := hw3.trans (hv4.mono hw3.size)
  replace t0 := (t0.below hv4).mono hv4.size
  replace t1 := (t1.below hv4).mono hv4.size
  replace t2 := (t2.below hv4).mono hv4.size
  clear r3 p3 hv4
  have HZ := Lib.hid (zz_walk b0 b1 b2 b3 k0 k1 k2 k3 xs ys cs ds HX.out HY.out (by omega) (by omega) SX.out SY.out w4 t0 t1 t2 t3)
  go_wp2_with fail
  refine HZ.out.mono ?_
  clear HZ
  rintro e w5 ⟨R, g, h, rfl, hM, hlen, rp, rc, hb5⟩
  have HM := Lib.hid hM
  rw [zip_length HX.out, zip_length HY.out] at hlen
  have hw5 : Below w.heap.size w w5 := hw4.trans (hb5.mono hw4.size)
  replace t0 := (t0.below hb5).mono hb5.size
  replace t1 := (t1.below hb5).mono hb5.size
  replace t2 := (t2.below hb5).mono hb5.size
  replace t3 := (t3.below hb5).mono hb5.size
  clear hM hb5 hw1 hw2 hw3 hw4
  have hso := sorted_any _ (some ⟨g, 0, none⟩) R.length (keys R) (by rw [keys_length]; omega) w5 rp
  rw [keys_length] at hso
  have HS := Lib.hid hso
  clear hso
  go_wp2_with fail
  refine HS.out.mono ?_
  clear HS
  rintro e w6 ⟨s3, rfl, hs3, q3, rfl⟩
  obtain rfl : s3 = true := hs3.out.2 (srt_adj HM.out.1)
  clear hs3
  have bq := below_drewN' w5.heap.size w5 q3
  replace t0 := t0.below bq
  replace t1 := t1.below bq
  replace t2 := t2.below bq
  replace t3 := t3.below bq
  replace rp := rp.below bq
  replace rc := rc.below bq
  clear bq
  go_wp2
  go_loop [15] (fun i => ∃ k : Nat, k ≤ R.length ∧ i = .int .i64 k) (fun i => R.length - (intOf i).toNat)
  case atStart => exact ⟨0, by omega, rfl⟩
  case round =>
    obtain ⟨k, hk, rfl⟩ := hrel
    by_cases hlt : k < R.length
    · obtain ⟨X, C, HE⟩ : ∃ X C, Hid (R[k] = (X, C)) := ⟨R[k].1, R[k].2, by unfold Hid; rfl⟩
      have x0 := rd_new rp (i := k) (x := X) (by unfold keys; rw [List.getElem?_map, List.getElem?_eq_getElem hlt, HE.out]; rfl)
      have x1 := rd_new rc (i := k) (x := C) (by rw [List.getElem?_map, List.getElem?_eq_getElem hlt, HE.out]; rfl)
      have HC : Hid (some C = omax (Plain.look (xs.zip cs) X) (Plain.look (ys.zip ds) X)) := look_at HM.out hlt HE.out
      have x0' : w5.cell? ⟨g, k, none⟩ = some (.string X) := x0
      have x1' : w5.cell? ⟨h, k, none⟩ = some (.int .u64 C) := x1
      clear x0 x1
      go_wp2_with fail
      refine (find_any _ b0 k0 xs (by omega) SX.out X _ t0).mono ?_
      rintro e w' ⟨i, rfl, hi, rfl⟩
      go_wp2_with fail
      refine (find_any _ b2 k2 ys (by omega) SY.out X _ t2).mono ?_
      rintro e w' ⟨j, rfl, hj, rfl⟩
      have hC := HC.out
      clear HC
      rcases hi.out with ⟨rfl, hni⟩ | ⟨i, rfl, hi'⟩
      · rw [look_zip_none HX.out hni] at hC
        clear hi hni
        rcases hj.out with ⟨rfl, hnj⟩ | ⟨j, rfl, hj'⟩
        · rw [look_zip_none HY.out hnj] at hC
          cases hC
        · obtain ⟨D, hD1, hD2⟩ := look_zip_some HY.out SY.out hj'
          rw [hD2] at hC
          obtain rfl : C = D := Option.some.inj hC
          have hjl : j < ds.length := (List.getElem?_eq_some_iff.1 hD1).1
          obtain ⟨b3', o3', rfl, y1⟩ := rd_at t3 hD1
          have y1' : w5.cell? ⟨b3', o3' + j, none⟩ = some (.int .u64 C) := y1
          clear hj hj' hC hD1 hD2 y1
          go_wp2
          go_round
          case rel => exact ⟨k + 1, by omega, by go_num⟩
          case measure => simp [intOf]; omega
      · obtain ⟨E, hE1, hE2⟩ := look_zip_some HX.out SX.out hi'
        rw [hE2] at hC
        have hil : i < cs.length := (List.getElem?_eq_some_iff.1 hE1).1
        obtain ⟨b1', o1', rfl, z1⟩ := rd_at t1 hE1
        have z1' : w5.cell? ⟨b1', o1' + i, none⟩ = some (.int .u64 E) := z1
        clear hi hi' hE1 hE2 z1
        rcases hj.out with ⟨rfl, hnj⟩ | ⟨j, rfl, hj'⟩
        · rw [look_zip_none HY.out hnj] at hC
          obtain rfl : C = E := Option.some.inj hC
          clear hj hnj hC
          go_wp2
          go_round
          case rel => exact ⟨k + 1, by omega, by go_num⟩
          case measure => simp [intOf]; omega
        · obtain ⟨D, hD1, hD2⟩ := look_zip_some HY.out SY.out hj'
          rw [hD2] at hC
          have hC' : C = max E D := Option.some.inj hC
          have hjl : j < ds.length := (List.getElem?_eq_some_iff.1 hD1).1
          obtain ⟨b3', o3', rfl, y1⟩ := rd_at t3 hD1
          have y1' : w5.cell? ⟨b3', o3' + j, none⟩ = some (.int .u64 D) := y1
          clear hj hj' hC hD1 hD2 y1
          by_cases hED : E < D
          · obtain rfl : C = D := by omega
            clear hC'
            go_wp2
            go_round
            case rel => exact ⟨k + 1, by omega, by go_num⟩
            case measure => simp [intOf]; omega
          · obtain rfl : C = E := by omega
            clear hC'
            go_wp2
            go_round
            case rel => exact ⟨k + 1, by omega, by go_num⟩
            case measure => simp [intOf]; omega
    · go_wp2
      go_loop [19] (fun i => ∃ k : Nat, k ≤ xs.length ∧ i = .int .i64 k) (fun i => xs.length - (intOf i).toNat)
      case atStart => exact ⟨0, by omega, rfl⟩
      case round =>
        clear hlt hk
        obtain ⟨k, hk, rfl⟩ := hrel
        by_cases hlt : k < xs.length
        · obtain ⟨X, HE⟩ : ∃ X, Hid (xs[k] = X) := ⟨xs[k], by unfold Hid; rfl⟩
          have hXk : xs[k]? = some X := by rw [List.getElem?_eq_getElem hlt, HE.out]
          obtain ⟨b0', o0', rfl, y0⟩ := rd_at t0 hXk
          have y0' : w5.cell? ⟨b0', o0' + k, none⟩ = some (.string X) := y0
          have HK : Hid (X ∈ keys R) := by unfold Hid; rw [mrg_keys HM.out, keys_zip HX.out]; exact Or.inl (List.mem_of_getElem? hXk)
          have hf := find_any _ (some ⟨g, 0, none⟩) R.length (keys R) (by rw [keys_length]; omega) HM.out.1 X _ rp
          rw [keys_length] at hf
          have HF := Lib.hid hf
          clear hf hXk y0
          go_wp2_with fail
          refine HF.out.mono ?_
          clear HF
          rintro e w' ⟨r, rfl, hr, rfl⟩
          obtain ⟨rk, rfl, _⟩ := fnd_in hr.out HK.out
          clear hr
          go_wp2
          go_round
          case rel => exact ⟨k + 1, by omega, by go_num⟩
          case measure => simp [intOf]; omega
        · go_wp2
          go_loop [20] (fun i => ∃ k : Nat, k ≤ ys.length ∧ i = .int .i64 k) (fun i => ys.length - (intOf i).toNat)
          case atStart => exact ⟨0, by omega, rfl⟩
          case round =>
            clear hlt hk
            obtain ⟨k, hk, rfl⟩ := hrel
            by_cases hlt : k < ys.length
            · obtain ⟨X, HE⟩ : ∃ X, Hid (ys[k] = X) := ⟨ys[k], by unfold Hid; rfl⟩
              have hXk : ys[k]? = some X := by rw [List.getElem?_eq_getElem hlt, HE.out]
              obtain ⟨b2', o2', rfl, y0⟩ := rd_at t2 hXk
              have y0' : w5.cell? ⟨b2', o2' + k, none⟩ = some (.string X) := y0
              have HK : Hid (X ∈ keys R) := by unfold Hid; rw [mrg_keys HM.out, keys_zip HY.out]; exact Or.inr (List.mem_of_getElem? hXk)
              have hf := find_any _ (some ⟨g, 0, none⟩) R.length (keys R) (by rw [keys_length]; omega) HM.out.1 X _ rp
              rw [keys_length] at hf
              have HF := Lib.hid hf
              clear hf hXk y0
              go_wp2_with fail
              refine HF.out.mono ?_
              clear HF
              rintro e w' ⟨r, rfl, hr, rfl⟩
              obtain ⟨rk, rfl, _⟩ := fnd_in hr.out HK.out
              clear hr
              go_wp2
              go_round
              case rel => exact ⟨k + 1, by omega, by go_num⟩
              case measure => simp [intOf]; omega
            · go_wp2
              go_ret
              exact ⟨rfl, below_drewN hw5 q3⟩
end Go.Proofs.Qxb6625905a
