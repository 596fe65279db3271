/-
  Seat b6625905a: THE WALK of FnMergeEntriesCommutesAndAbsorbs.
-/
import Derived.Test.Qxb6625905aUnion
import Derived.Test.Qxb6625905aPlain4
namespace Go.Proofs.Qxb6625905a
open Go.RowKit Plain

theorem zip_keys (R : List Ent) : (keys R).zip (R.map (·.2)) = R := by
  induction R with
  | nil => rfl
  | cons e r ih =>
    show (e.1, e.2) :: (keys r).zip (r.map (·.2)) = e :: r
    rw [ih]

/-- ZZmergeEntries into a merge that it made before. -/
theorem zz_again (g h : Nat) (R : List Ent) (a2 a3 : Option Addr) (c2 c3 : Nat) (ys : List ByteArray) (ds : List Int) (hy : ds.length = ys.length) (lx : R.length ≤ 524288) (ly : ys.length ≤ 524288)
    (sx : Srt ltB (keys R)) (sy : Srt ltB ys) (w : World) (r0 : Rd S w.heap.size w (some ⟨g, 0, none⟩) (keys R)) (r1 : Rd U w.heap.size w (some ⟨h, 0, none⟩) (R.map (·.2))) (r2 : Rd S w.heap.size w a2 ys) (r3 : Rd U w.heap.size w a3 ds) :
    Calls Try.prog 8 #[.slice (some ⟨g, 0, none⟩) R.length R.length, .slice (some ⟨h, 0, none⟩) R.length R.length, .slice a2 ys.length c2, .slice a3 ds.length c3] w fun e w' => ZZed w R (ys.zip ds) e w' := by
  have hz := zz_walk (some ⟨g, 0, none⟩) (some ⟨h, 0, none⟩) a2 a3 R.length R.length c2 c3 (keys R) ys (R.map (·.2)) ds (by rw [keys_length, List.length_map]) hy (by rw [keys_length]; exact lx) ly sx sy w r0 r1 r2 r3
  rw [zip_keys, keys_length, List.length_map] at hz
  exact hz

/-- zzSameEntries at two copies of one merge. -/
theorem same_again (B g h g' h' : Nat) (R : List Ent) (l : R.length ≤ 1048576) (w : World) (r0 : Rd S B w (some ⟨g, 0, none⟩) (keys R)) (r1 : Rd U B w (some ⟨h, 0, none⟩) (R.map (·.2))) (r2 : Rd S B w (some ⟨g', 0, none⟩) (keys R)) (r3 : Rd U B w (some ⟨h', 0, none⟩) (R.map (·.2))) :
    Calls Try.prog 11 #[.slice (some ⟨g, 0, none⟩) R.length R.length, .slice (some ⟨h, 0, none⟩) R.length R.length, .slice (some ⟨g', 0, none⟩) R.length R.length, .slice (some ⟨h', 0, none⟩) R.length R.length] w fun e w' => e = .returned (.bool true) ∧ ∃ q, w' = w.drewN q := by
  have hs := same_any B (some ⟨g, 0, none⟩) (some ⟨h, 0, none⟩) (some ⟨g', 0, none⟩) (some ⟨h', 0, none⟩) R.length R.length R.length R.length (keys R) (R.map (·.2)) (by rw [keys_length, List.length_map]) (by rw [keys_length]; exact l) w r0 r1 r2 r3
  rw [keys_length, List.length_map] at hs
  exact hs

set_option maxHeartbeats 4000000 in
set_option maxRecDepth 100000 in
theorem comm_main (a0 a1 a2 a3 : Option Addr) (c0 c1 c2 c3 : Nat) (xs ys : List ByteArray) (cs ds : List Int) (hx : cs.length = xs.length) (hy : ds.length = ys.length) (lx : xs.length ≤ 65536) (ly : ys.length ≤ 65536)
    (w : World) (r0 : Rd S w.heap.size w a0 xs) (r1 : Rd U w.heap.size w a1 cs) (r2 : Rd S w.heap.size w a2 ys) (r3 : Rd U w.heap.size w a3 ds) :
    Calls Try.prog 4 #[.slice a0 xs.length c0, .slice a1 cs.length c1, .slice a2 ys.length c2, .slice a3 ds.length c3] w fun e w' => e = .returned (.bool true) ∧ Below w.heap.size w w' := by
  have HX := Lib.hid hx
  have HY := Lib.hid hy
  have e1 : ((xs.length : Int) != (cs.length : Int)) = false := by rw [bne_eq_false_iff_eq]; omega
  have e2 : ((ys.length : Int) != (ds.length : Int)) = false := by rw [bne_eq_false_iff_eq]; omega
  have lc : cs.length ≤ 65536 := by omega
  have ld : ds.length ≤ 65536 := by omega
  clear hx hy
  go_enter Try.func4, Try.ntmps4
  go_wp2_with fail
  refine (bytes10_any a0 a1 a2 a3 c0 cs.length c1 c2 ds.length c3 xs ys w.heap.size w r0 r2 (by omega) (by omega) (by omega) (by omega)).mono ?_
  rintro e w ⟨hb, rfl⟩
  rcases hb.cases with rfl | rfl
  rotate_left
  · go_wp2
    go_ret
    exact ⟨rfl, Below.refl _ _⟩
  go_wp2_with fail
  refine (fit_any a0 a1 a2 a3 c0 cs.length c1 c2 ds.length c3 xs ys _ _ r0 r2 lx lc ly ld).mono ?_
  rintro e w ⟨hb, rfl⟩
  rcases hb.cases with rfl | rfl
  rotate_left
  · go_wp2
    go_ret
    exact ⟨rfl, Below.refl _ _⟩
  go_wp2_with fail
  refine (sorted_any _ a0 c0 xs (by omega) _ r0).mono ?_
  rintro e w' ⟨s1, rfl, hs1, q1, rfl⟩
  cases s1
  · go_wp2
    go_ret
    exact ⟨rfl, below_drewN' _ _ _⟩
  go_wp2_with fail
  refine (sorted_any _ a2 c2 ys (by omega) _ (r2.below (below_drewN' _ _ q1))).mono ?_
  rintro e w' ⟨s2, rfl, hs2, q2, rfl⟩
  cases s2
  · go_wp2
    go_ret
    exact ⟨rfl, below_drewN' _ _ _⟩
  have SX : Hid (Srt ltB xs) := adj_srt loB xs (hs1.out.1 (by trivial))
  have SY : Hid (Srt ltB ys) := adj_srt loB ys (hs2.out.1 (by trivial))
  clear hs1 hs2 e1 e2
  have p0 := r0.below (below_drewN' w.heap.size w (q1 + q2))
  have nn := fun (w : World) => run_neq_slice_nil_any (P := Try.prog) w 22 9 a0 xs.length c0 0 0 Try.underlying22
  go_upto_if 74 with fail
  clear nn
  go_cut [0] from 23 (fun s wx => Cpy S (w.drewN (q1 + q2)) xs s wx)
  case first =>
    cases a0 with
    | none =>
      go_wp2
      go_meet
      exact ⟨none, c0, rfl, p0, Below.refl _ _⟩
    | some a =>
      have hmk := fun (w : World) => make22 xs.length (by omega) w
      go_wp2_with (refine wpList_cpy S 22 9 Try.underlying22 (by kernel_rfl) (fun _ => rfl) rfl (.tmp 78) (.tmp 79) rfl xs w.heap.size _ _ rfl rfl (.string ⟨#[]⟩) ?hg w.heap.size (w.drewN (q1 + q2)) ?hb (Nat.le_refl _) ?hsrc ?_)
      case hg => exact blk_new (w.drewN (q1 + q2)) _ 9
      case hb => exact (Below.refl w.heap.size (w.drewN (q1 + q2))).alloc (show w.heap.size ≤ (w.drewN (q1 + q2)).heap.size from Nat.le_refl _) _
      case hsrc => exact Rd.below p0 ((Below.refl w.heap.size (w.drewN (q1 + q2))).alloc (show w.heap.size ≤ (w.drewN (q1 + q2)).heap.size from Nat.le_refl _) _)
      intro w' hblk hb'
      clear hmk
      go_wp2
      go_meet
      exact ⟨_, _, rfl, hblk.rd, hb'⟩
  case rest =>
  obtain ⟨b0, k0, rfl, t0, hv1⟩ := hcut
  rename World => w1
  have hw1 : Below w.heap.size w w1 := (below_drewN' w.heap.size w (q1 + q2)).trans hv1
  clear r0 p0 hv1
  have p1 := r1.below hw1
  have nn := fun (w : World) => run_neq_slice_nil_any (P := Try.prog) w 23 29 a1 cs.length c1 0 0 Try.underlying23
  go_upto_if 83 with fail
  clear nn
  go_cut [1] from 23 (fun s wx => Cpy U w1 cs s wx)
  case first =>
    cases a1 with
    | none =>
      go_wp2
      go_meet
      exact ⟨none, c1, rfl, (p1.mono hw1.size), Below.refl _ _⟩
    | some a =>
      have hmk := fun (w : World) => make23 cs.length (by omega) w
      go_wp2_with (refine wpList_cpy U 23 29 Try.underlying23 (by kernel_rfl) (fun _ => rfl) rfl (.tmp 87) (.tmp 88) rfl cs w1.heap.size _ _ rfl rfl (.int .u64 0) ?hg w1.heap.size w1 ?hb (Nat.le_refl _) ?hsrc ?_)
      case hg => exact blk_new w1 _ 29
      case hb => exact (Below.refl w1.heap.size w1).alloc (show w1.heap.size ≤ w1.heap.size from Nat.le_refl _) _
      case hsrc => exact Rd.below (p1.mono hw1.size) ((Below.refl w1.heap.size w1).alloc (show w1.heap.size ≤ w1.heap.size from Nat.le_refl _) _)
      intro w' hblk hb'
      clear hmk
      go_wp2
      go_meet
      exact ⟨_, _, rfl, hblk.rd, hb'⟩
  case rest =>
  obtain ⟨b1, k1, rfl, t1, hv2⟩ := hcut
  rename World => w2
  have hw2 : Below w.heap.size w w2 := hw1.trans (hv2.mono hw1.size)
  replace t0 := (t0.below hv2).mono hv2.size
  clear r1 p1 hv2
  have p2 := r2.below hw2
  have nn := fun (w : World) => run_neq_slice_nil_any (P := Try.prog) w 22 9 a2 ys.length c2 0 0 Try.underlying22
  go_upto_if 92 with fail
  clear nn
  go_cut [2] from 23 (fun s wx => Cpy S w2 ys s wx)
  case first =>
    cases a2 with
    | none =>
      go_wp2
      go_meet
      exact ⟨none, c2, rfl, (p2.mono hw2.size), Below.refl _ _⟩
    | some a =>
      have hmk := fun (w : World) => make22 ys.length (by omega) w
      go_wp2_with (refine wpList_cpy S 22 9 Try.underlying22 (by kernel_rfl) (fun _ => rfl) rfl (.tmp 96) (.tmp 97) rfl ys w2.heap.size _ _ rfl rfl (.string ⟨#[]⟩) ?hg w2.heap.size w2 ?hb (Nat.le_refl _) ?hsrc ?_)
      case hg => exact blk_new w2 _ 9
      case hb => exact (Below.refl w2.heap.size w2).alloc (show w2.heap.size ≤ w2.heap.size from Nat.le_refl _) _
      case hsrc => exact Rd.below (p2.mono hw2.size) ((Below.refl w2.heap.size w2).alloc (show w2.heap.size ≤ w2.heap.size from Nat.le_refl _) _)
      intro w' hblk hb'
      clear hmk
      go_wp2
      go_meet
      exact ⟨_, _, rfl, hblk.rd, hb'⟩
  case rest =>
  obtain ⟨b2, k2, rfl, t2, hv3⟩ := hcut
  rename World => w3
  have hw3 : Below w.heap.size w w3 := hw2.trans (hv3.mono hw2.size)
  replace t0 := (t0.below hv3).mono hv3.size
  replace t1 := (t1.below hv3).mono hv3.size
  clear r2 p2 hv3
  have p3 := r3.below hw3
  have nn := fun (w : World) => run_neq_slice_nil_any (P := Try.prog) w 23 29 a3 ds.length c3 0 0 Try.underlying23
  go_upto_if 101 with fail
  clear nn
  go_cut [3] from 23 (fun s wx => Cpy U w3 ds s wx)
  case first =>
    cases a3 with
    | none =>
      go_wp2
      go_meet
      exact ⟨none, c3, rfl, (p3.mono hw3.size), Below.refl _ _⟩
    | some a =>
      have hmk := fun (w : World) => make23 ds.length (by omega) w
      go_wp2_with (refine wpList_cpy U 23 29 Try.underlying23 (by kernel_rfl) (fun _ => rfl) rfl (.tmp 105) (.tmp 106) rfl ds w3.heap.size _ _ rfl rfl (.int .u64 0) ?hg w3.heap.size w3 ?hb (Nat.le_refl _) ?hsrc ?_)
      case hg => exact blk_new w3 _ 29
      case hb => exact (Below.refl w3.heap.size w3).alloc (show w3.heap.size ≤ w3.heap.size from Nat.le_refl _) _
      case hsrc => exact Rd.below (p3.mono hw3.size) ((Below.refl w3.heap.size w3).alloc (show w3.heap.size ≤ w3.heap.size from Nat.le_refl _) _)
      intro w' hblk hb'
      clear hmk
      go_wp2
      go_meet
      exact ⟨_, _, rfl, hblk.rd, hb'⟩
  case rest =>
  obtain ⟨b3, k3, rfl, t3, hv4⟩ := hcut
  rename World => w4
  have hw4 : Below w.heap.size w w4 := hw3.trans (hv4.mono hw3.size)
  replace t0 := (t0.below hv4).mono hv4.size
  replace t1 := (t1.below hv4).mono hv4.size
  replace t2 := (t2.below hv4).mono hv4.size
  clear r3 p3 hv4
  go_wp2
  go_loop [13, 14] (fun cc i => ∃ k c : Nat, k ≤ xs.length ∧ c ≤ k ∧ cc = .int .i64 c ∧ i = .int .i64 k ∧ Hid (c = shared (xs.take k) ys)) (fun _ i => xs.length - (intOf i).toNat)
  case atStart => exact ⟨0, 0, by omega, by omega, rfl, rfl, rfl⟩
  case round =>
    obtain ⟨k, c, hk, hc, rfl, rfl, hcc⟩ := hrel
    by_cases hlt : k < xs.length
    · obtain ⟨X, HE⟩ : ∃ X, Hid (xs[k] = X) := ⟨xs[k], by unfold Hid; rfl⟩
      have hXk : xs[k]? = some X := by rw [List.getElem?_eq_getElem hlt, HE.out]
      obtain ⟨b0', o0', rfl, y0⟩ := rd_at t0 hXk
      clear hXk
      go_wp2_with fail
      refine (find_any _ b2 k2 ys (by omega) SY.out X _ t2).mono ?_
      rintro e w4 ⟨r, rfl, hr, rfl⟩
      rcases hr.out with ⟨rfl, hn⟩ | ⟨j, rfl, hj⟩
      · have HS : Hid (c = shared (xs.take (k + 1)) ys) := shared_miss hlt HE.out hn hcc.out
        clear hr hn
        go_wp2
        go_round
        case rel => exact ⟨k + 1, c, by omega, by omega, rfl, by go_num, HS⟩
        case measure => simp [intOf]; omega
      · have HS : Hid (c + 1 = shared (xs.take (k + 1)) ys) := shared_hit hlt HE.out (List.mem_of_getElem? hj) hcc.out
        clear hr hj
        go_wp2
        go_round
        case rel => exact ⟨k + 1, c + 1, by omega, by omega, by go_num, by go_num, HS⟩
        case measure => simp [intOf]; omega
    · have HN : Hid (c = shared xs ys) := by
        have := hcc.out
        rw [List.take_of_length_le (by omega)] at this
        exact this
      clear hcc
      have HZ := Lib.hid (zz_walk b0 b1 b2 b3 k0 k1 k2 k3 xs ys cs ds HX.out HY.out (by omega) (by omega) SX.out SY.out w4 t0 t1 t2 t3)
      go_wp2_with fail
      refine HZ.out.mono ?_
      clear HZ
      rintro e w5 ⟨R, g, h, rfl, hM, hRl, rp, rc, hb5⟩
      have HM := Lib.hid hM
      rw [zip_length HX.out, zip_length HY.out] at hRl
      have hl : R.length + c = xs.length + ys.length := by
        have := mrg_shared loB (A := xs.zip cs) (B := ys.zip ds) (by rw [keys_zip HX.out]; exact SX.out) (by rw [keys_zip HY.out]; exact SY.out) hM
        rw [keys_zip HX.out, keys_zip HY.out, zip_length HX.out, zip_length HY.out] at this
        rw [HN.out]
        exact this
      have hl' : ((R.length : Int) != (xs.length : Int) + (ys.length : Int) - (c : Int)) = false := by rw [bne_eq_false_iff_eq]; omega
      clear hl hM HN
      have hw5 : Below w.heap.size w w5 := hw4.trans (hb5.mono hw4.size)
      replace t0 := (t0.below hb5).mono hb5.size
      replace t1 := (t1.below hb5).mono hb5.size
      replace t2 := (t2.below hb5).mono hb5.size
      replace t3 := (t3.below hb5).mono hb5.size
      clear hb5 hw1 hw2 hw3 hw4
      have HZ := Lib.hid (zz_walk b2 b3 b0 b1 k2 k3 k0 k1 ys xs ds cs HY.out HX.out (by omega) (by omega) SY.out SX.out w5 t2 t3 t0 t1)
      go_wp2_with fail
      refine HZ.out.mono ?_
      clear HZ
      rintro e w6 ⟨R2, g2, h2, rfl, hM2, _, rp2, rc2, hb6⟩
      obtain rfl : R = R2 := mrg_comm loB HM.out hM2
      clear hM2
      have hw6 : Below w.heap.size w w6 := hw5.trans (hb6.mono hw5.size)
      replace t0 := (t0.below hb6).mono hb6.size
      replace t1 := (t1.below hb6).mono hb6.size
      replace t2 := (t2.below hb6).mono hb6.size
      replace t3 := (t3.below hb6).mono hb6.size
      replace rp := (rp.below hb6).mono hb6.size
      replace rc := (rc.below hb6).mono hb6.size
      clear hb6 hw5
      have HS := Lib.hid (same_again w6.heap.size g h g2 h2 R (by omega) w6 rp rc rp2 rc2)
      go_wp2_with fail
      refine HS.out.mono ?_
      clear HS rp2 rc2
      rintro e w7 ⟨rfl, q6, rfl⟩
      have bq : Below w6.heap.size w6 (w6.drewN q6) := below_drewN' _ _ _
      replace t0 := t0.below bq
      replace t1 := t1.below bq
      replace t2 := t2.below bq
      replace t3 := t3.below bq
      replace rp := rp.below bq
      replace rc := rc.below bq
      have hw7 : Below w.heap.size w (w6.drewN q6) := below_drewN hw6 q6
      clear bq hw6
      have HZ := Lib.hid (zz_again g h R b2 b3 k2 k3 ys ds HY.out (by omega) (by omega) HM.out.1 SY.out (w6.drewN q6) rp rc t2 t3)
      go_wp2_with fail
      refine HZ.out.mono ?_
      clear HZ
      rintro e w8 ⟨R3, g3, h3, rfl, hM3, _, rp3, rc3, hb8⟩
      obtain rfl : R = R3 := mrg_again loB HM.out hM3
      clear hM3
      have hw8 : Below w.heap.size w w8 := hw7.trans (hb8.mono hw7.size)
      replace t0 := (t0.below hb8).mono hb8.size
      replace t1 := (t1.below hb8).mono hb8.size
      replace rp := (rp.below hb8).mono hb8.size
      replace rc := (rc.below hb8).mono hb8.size
      clear hb8 hw7 t2 t3
      have HS := Lib.hid (same_again w8.heap.size g h g3 h3 R (by omega) w8 rp rc rp3 rc3)
      go_wp2_with fail
      refine HS.out.mono ?_
      clear HS rp3 rc3
      rintro e w9 ⟨rfl, q8, rfl⟩
      have bq : Below w8.heap.size w8 (w8.drewN q8) := below_drewN' _ _ _
      replace t0 := t0.below bq
      replace t1 := t1.below bq
      replace rp := rp.below bq
      replace rc := rc.below bq
      have hw9 : Below w.heap.size w (w8.drewN q8) := below_drewN hw8 q8
      clear bq hw8
      have HZ := Lib.hid (zz_again g h R b0 b1 k0 k1 xs cs HX.out (by omega) (by omega) HM.out.1 SX.out (w8.drewN q8) rp rc t0 t1)
      go_wp2_with fail
      refine HZ.out.mono ?_
      clear HZ
      rintro e w10 ⟨R4, g4, h4, rfl, hM4, _, rp4, rc4, hb10⟩
      obtain rfl : R = R4 := mrg_again' loB HM.out hM4
      clear hM4
      have hw10 : Below w.heap.size w w10 := hw9.trans (hb10.mono hw9.size)
      replace rp := (rp.below hb10).mono hb10.size
      replace rc := (rc.below hb10).mono hb10.size
      clear hb10 hw9 t0 t1
      have HS := Lib.hid (same_again w10.heap.size g h g4 h4 R (by omega) w10 rp rc rp4 rc4)
      go_wp2_with fail
      refine HS.out.mono ?_
      clear HS rp4 rc4
      rintro e w11 ⟨rfl, q10, rfl⟩
      go_wp2
      go_ret
      exact ⟨rfl, below_drewN hw10 q10⟩
end Go.Proofs.Qxb6625905a
