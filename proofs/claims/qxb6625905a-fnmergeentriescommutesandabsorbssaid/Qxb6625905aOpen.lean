/-
  Seat b6625905a: THE ARGUMENTS OPENED; both laws' roads that end early.
-/
import Derived.Test.Qxb6625905aTop
import Derived.ProofKit
import Derived.SliceStrings
namespace Go.Proofs.Qxb6625905a
open Go.ChangeShapes Go.WideShapes Go.ChangeAt Go.RowKit Plain

theorem add_addr (b off j : Nat) : (⟨b, off, none⟩ : Addr).add j = ⟨b, off + j, none⟩ := by
  by_cases h : j = 0 <;> simp [Addr.add, h]

/-- A []string that came in. -/
theorem open22 {H : Type} {enc : TypeId × Value → H} {W : World} {a : Option Addr} {len cap fuel : Nat} {x : DataW H × List MemPlace} (hf : DataW.trod enc Try.prog W 0 (fun _ => true) true fuel 22 [.slice a len cap] = some x) :
    ∃ xs : List ByteArray, xs.length = len ∧ len ≤ 9223372036854775807 ∧ Rd S W.heap.size W a xs := by
  rcases open_strings Try.underlying22 Try.underlying9 (by kernel_rfl) hf with ⟨hcs, _⟩ | ⟨ad, l, c, ss, hcs, _, hl, hm, hz, _, hcell, _⟩
  · simp at hcs
    obtain ⟨rfl, rfl, rfl⟩ := hcs
    exact ⟨[], rfl, by omega, Rd.nil _ _ _ _⟩
  · simp at hcs
    obtain ⟨rfl, rfl, rfl⟩ := hcs
    simp only [if_true] at hz
    have hlen : (ss.take len).length = len := by rw [List.length_take]; omega
    refine ⟨ss.take len, hlen, by unfold maxLen at hm; omega, fun hne => ?_⟩
    have h0 : 0 < len := by rw [← hlen]; exact List.length_pos_iff.2 hne
    obtain ⟨b, off, spot⟩ := ad
    have hspot : spot = none := by simpa [Addr.add] using World.cell?_spot (hcell 0 (by omega))
    subst hspot
    refine ⟨b, off, rfl, ?_, fun j hj => ?_⟩
    · have := World.block_lt_of_cell? W _ (hcell 0 (by omega))
      simpa [Addr.add] using this
    · have hj' : j < len := by omega
      have := hcell j (by omega)
      rw [add_addr] at this
      rw [this, List.getElem_take]
      simp [List.getD, show j < ss.length by omega]

/-- A []uint64 that came in. -/
theorem open23 {H : Type} {enc : TypeId × Value → H} {W : World} {a : Option Addr} {len cap fuel : Nat} {x : DataW H × List MemPlace} (hf : DataW.trod enc Try.prog W 0 (fun _ => true) true fuel 23 [.slice a len cap] = some x) :
    ∃ cs : List Int, cs.length = len ∧ len ≤ 9223372036854775807 ∧ Rd U W.heap.size W a cs := by
  rcases open_ints Try.underlying23 Try.underlying29 (by kernel_rfl) hf with ⟨hcs, _⟩ | ⟨ad, l, c, zs, hcs, _, hl, hm, hz, _, hcell, _⟩
  · simp at hcs
    obtain ⟨rfl, rfl, rfl⟩ := hcs
    exact ⟨[], rfl, by omega, Rd.nil _ _ _ _⟩
  · simp at hcs
    obtain ⟨rfl, rfl, rfl⟩ := hcs
    simp only [if_true] at hz
    have hlen : (zs.take len).length = len := by rw [List.length_take]; omega
    refine ⟨zs.take len, hlen, by unfold maxLen at hm; omega, fun hne => ?_⟩
    have h0 : 0 < len := by rw [← hlen]; exact List.length_pos_iff.2 hne
    obtain ⟨b, off, spot⟩ := ad
    have hspot : spot = none := by simpa [Addr.add] using World.cell?_spot (hcell 0 (by omega))
    subst hspot
    refine ⟨b, off, rfl, ?_, fun j hj => ?_⟩
    · have := World.block_lt_of_cell? W _ (hcell 0 (by omega))
      simpa [Addr.add] using this
    · have hj' : j < len := by omega
      have := hcell j (by omega)
      rw [add_addr] at this
      rw [this, List.getElem_take]
      simp [List.getD, show j < zs.length by omega]

/-! ### Function 3: the roads that end early -/
set_option maxHeartbeats 1000000 in
set_option maxRecDepth 100000 in
theorem union_long (a0 a1 a2 a3 : Option Addr) (c0 c1 c2 c3 : Nat) (xs ys : List ByteArray) (cs ds : List Int) (w : World) (r0 : Rd S w.heap.size w a0 xs) (r2 : Rd S w.heap.size w a2 ys)
    (l0 : xs.length ≤ 9223372036854775807) (l1 : cs.length ≤ 9223372036854775807) (l2 : ys.length ≤ 9223372036854775807) (l3 : ds.length ≤ 9223372036854775807)
    (h : 65536 < xs.length ∨ 65536 < cs.length ∨ 65536 < ys.length ∨ 65536 < ds.length) :
    Calls Try.prog 3 #[.slice a0 xs.length c0, .slice a1 cs.length c1, .slice a2 ys.length c2, .slice a3 ds.length c3] w fun e w' => e = .returned (.bool true) ∧ Below w.heap.size w w' := by
  by_cases g0 : 65536 < xs.length
  · clear h
    go_enter Try.func3, Try.ntmps3
    go_wp2_with fail
    refine (bytes5_any a0 a1 a2 a3 c0 cs.length c1 c2 ds.length c3 xs ys w.heap.size w r0 r2 (by omega) (by omega) (by omega) (by omega)).mono ?_
    rintro e w ⟨hb, rfl⟩
    rcases hb.cases with rfl | rfl
    · go_wp2
      go_ret
      exact ⟨rfl, Below.refl _ _⟩
    · go_wp2
      go_ret
      exact ⟨rfl, Below.refl _ _⟩
  by_cases g1 : 65536 < cs.length
  · clear h
    go_enter Try.func3, Try.ntmps3
    go_wp2_with fail
    refine (bytes5_any a0 a1 a2 a3 c0 cs.length c1 c2 ds.length c3 xs ys w.heap.size w r0 r2 (by omega) (by omega) (by omega) (by omega)).mono ?_
    rintro e w ⟨hb, rfl⟩
    rcases hb.cases with rfl | rfl
    · go_wp2
      go_ret
      exact ⟨rfl, Below.refl _ _⟩
    · go_wp2
      go_ret
      exact ⟨rfl, Below.refl _ _⟩
  by_cases g2 : 65536 < ys.length
  · clear h
    go_enter Try.func3, Try.ntmps3
    go_wp2_with fail
    refine (bytes5_any a0 a1 a2 a3 c0 cs.length c1 c2 ds.length c3 xs ys w.heap.size w r0 r2 (by omega) (by omega) (by omega) (by omega)).mono ?_
    rintro e w ⟨hb, rfl⟩
    rcases hb.cases with rfl | rfl
    · go_wp2
      go_ret
      exact ⟨rfl, Below.refl _ _⟩
    · go_wp2
      go_ret
      exact ⟨rfl, Below.refl _ _⟩
  have g3 : 65536 < ds.length := by omega
  clear h
  go_enter Try.func3, Try.ntmps3
  go_wp2_with fail
  refine (bytes5_any a0 a1 a2 a3 c0 cs.length c1 c2 ds.length c3 xs ys w.heap.size w r0 r2 (by omega) (by omega) (by omega) (by omega)).mono ?_
  rintro e w ⟨hb, rfl⟩
  rcases hb.cases with rfl | rfl
  · go_wp2
    go_ret
    exact ⟨rfl, Below.refl _ _⟩
  · go_wp2
    go_ret
    exact ⟨rfl, Below.refl _ _⟩

set_option maxHeartbeats 1000000 in
set_option maxRecDepth 100000 in
theorem union_odd (a0 a1 a2 a3 : Option Addr) (c0 c1 c2 c3 : Nat) (xs ys : List ByteArray) (cs ds : List Int) (w : World) (r0 : Rd S w.heap.size w a0 xs) (r2 : Rd S w.heap.size w a2 ys)
    (l0 : xs.length ≤ 65536) (l1 : cs.length ≤ 65536) (l2 : ys.length ≤ 65536) (l3 : ds.length ≤ 65536) (h : ¬ (cs.length = xs.length ∧ ds.length = ys.length)) :
    Calls Try.prog 3 #[.slice a0 xs.length c0, .slice a1 cs.length c1, .slice a2 ys.length c2, .slice a3 ds.length c3] w fun e w' => e = .returned (.bool true) ∧ Below w.heap.size w w' := by
  by_cases g0 : cs.length = xs.length
  · have e1 : ((xs.length : Int) != (cs.length : Int)) = false := by rw [bne_eq_false_iff_eq]; omega
    have e2 : ((ys.length : Int) != (ds.length : Int)) = true := by rw [bne_iff_ne]; intro e; exact h ⟨g0, by omega⟩
    clear h g0
    go_enter Try.func3, Try.ntmps3
    go_wp2_with fail
    refine (bytes5_any a0 a1 a2 a3 c0 cs.length c1 c2 ds.length c3 xs ys w.heap.size w r0 r2 (by omega) (by omega) (by omega) (by omega)).mono ?_
    rintro e w ⟨hb, rfl⟩
    rcases hb.cases with rfl | rfl
    · go_wp2_with fail
      refine (fit_any a0 a1 a2 a3 c0 cs.length c1 c2 ds.length c3 xs ys _ _ r0 r2 (by omega) (by omega) (by omega) (by omega)).mono ?_
      rintro e w ⟨hb, rfl⟩
      rcases hb.cases with rfl | rfl
      · go_wp2
        go_ret
        exact ⟨rfl, Below.refl _ _⟩
      · go_wp2
        go_ret
        exact ⟨rfl, Below.refl _ _⟩
    · go_wp2
      go_ret
      exact ⟨rfl, Below.refl _ _⟩
  · have e1 : ((xs.length : Int) != (cs.length : Int)) = true := by rw [bne_iff_ne]; intro e; exact g0 (by omega)
    clear h g0
    go_enter Try.func3, Try.ntmps3
    go_wp2_with fail
    refine (bytes5_any a0 a1 a2 a3 c0 cs.length c1 c2 ds.length c3 xs ys w.heap.size w r0 r2 (by omega) (by omega) (by omega) (by omega)).mono ?_
    rintro e w ⟨hb, rfl⟩
    rcases hb.cases with rfl | rfl
    · go_wp2_with fail
      refine (fit_any a0 a1 a2 a3 c0 cs.length c1 c2 ds.length c3 xs ys _ _ r0 r2 (by omega) (by omega) (by omega) (by omega)).mono ?_
      rintro e w ⟨hb, rfl⟩
      rcases hb.cases with rfl | rfl
      · go_wp2
        go_ret
        exact ⟨rfl, Below.refl _ _⟩
      · go_wp2
        go_ret
        exact ⟨rfl, Below.refl _ _⟩
    · go_wp2
      go_ret
      exact ⟨rfl, Below.refl _ _⟩

/-! ### Function 4: the roads that end early -/
set_option maxHeartbeats 1000000 in
set_option maxRecDepth 100000 in
theorem comm_long (a0 a1 a2 a3 : Option Addr) (c0 c1 c2 c3 : Nat) (xs ys : List ByteArray) (cs ds : List Int) (w : World) (r0 : Rd S w.heap.size w a0 xs) (r2 : Rd S w.heap.size w a2 ys)
    (l0 : xs.length ≤ 9223372036854775807) (l1 : cs.length ≤ 9223372036854775807) (l2 : ys.length ≤ 9223372036854775807) (l3 : ds.length ≤ 9223372036854775807)
    (h : 65536 < xs.length ∨ 65536 < cs.length ∨ 65536 < ys.length ∨ 65536 < ds.length) :
    Calls Try.prog 4 #[.slice a0 xs.length c0, .slice a1 cs.length c1, .slice a2 ys.length c2, .slice a3 ds.length c3] w fun e w' => e = .returned (.bool true) ∧ Below w.heap.size w w' := by
  by_cases g0 : 65536 < xs.length
  · clear h
    go_enter Try.func4, Try.ntmps4
    go_wp2_with fail
    refine (bytes10_any a0 a1 a2 a3 c0 cs.length c1 c2 ds.length c3 xs ys w.heap.size w r0 r2 (by omega) (by omega) (by omega) (by omega)).mono ?_
    rintro e w ⟨hb, rfl⟩
    rcases hb.cases with rfl | rfl
    · go_wp2
      go_ret
      exact ⟨rfl, Below.refl _ _⟩
    · go_wp2
      go_ret
      exact ⟨rfl, Below.refl _ _⟩
  by_cases g1 : 65536 < cs.length
  · clear h
    go_enter Try.func4, Try.ntmps4
    go_wp2_with fail
    refine (bytes10_any a0 a1 a2 a3 c0 cs.length c1 c2 ds.length c3 xs ys w.heap.size w r0 r2 (by omega) (by omega) (by omega) (by omega)).mono ?_
    rintro e w ⟨hb, rfl⟩
    rcases hb.cases with rfl | rfl
    · go_wp2
      go_ret
      exact ⟨rfl, Below.refl _ _⟩
    · go_wp2
      go_ret
      exact ⟨rfl, Below.refl _ _⟩
  by_cases g2 : 65536 < ys.length
  · clear h
    go_enter Try.func4, Try.ntmps4
    go_wp2_with fail
    refine (bytes10_any a0 a1 a2 a3 c0 cs.length c1 c2 ds.length c3 xs ys w.heap.size w r0 r2 (by omega) (by omega) (by omega) (by omega)).mono ?_
    rintro e w ⟨hb, rfl⟩
    rcases hb.cases with rfl | rfl
    · go_wp2
      go_ret
      exact ⟨rfl, Below.refl _ _⟩
    · go_wp2
      go_ret
      exact ⟨rfl, Below.refl _ _⟩
  have g3 : 65536 < ds.length := by omega
  clear h
  go_enter Try.func4, Try.ntmps4
  go_wp2_with fail
  refine (bytes10_any a0 a1 a2 a3 c0 cs.length c1 c2 ds.length c3 xs ys w.heap.size w r0 r2 (by omega) (by omega) (by omega) (by omega)).mono ?_
  rintro e w ⟨hb, rfl⟩
  rcases hb.cases with rfl | rfl
  · go_wp2
    go_ret
    exact ⟨rfl, Below.refl _ _⟩
  · go_wp2
    go_ret
    exact ⟨rfl, Below.refl _ _⟩

set_option maxHeartbeats 1000000 in
set_option maxRecDepth 100000 in
theorem comm_odd (a0 a1 a2 a3 : Option Addr) (c0 c1 c2 c3 : Nat) (xs ys : List ByteArray) (cs ds : List Int) (w : World) (r0 : Rd S w.heap.size w a0 xs) (r2 : Rd S w.heap.size w a2 ys)
    (l0 : xs.length ≤ 65536) (l1 : cs.length ≤ 65536) (l2 : ys.length ≤ 65536) (l3 : ds.length ≤ 65536) (h : ¬ (cs.length = xs.length ∧ ds.length = ys.length)) :
    Calls Try.prog 4 #[.slice a0 xs.length c0, .slice a1 cs.length c1, .slice a2 ys.length c2, .slice a3 ds.length c3] w fun e w' => e = .returned (.bool true) ∧ Below w.heap.size w w' := by
  by_cases g0 : cs.length = xs.length
  · have e1 : ((xs.length : Int) != (cs.length : Int)) = false := by rw [bne_eq_false_iff_eq]; omega
    have e2 : ((ys.length : Int) != (ds.length : Int)) = true := by rw [bne_iff_ne]; intro e; exact h ⟨g0, by omega⟩
    clear h g0
    go_enter Try.func4, Try.ntmps4
    go_wp2_with fail
    refine (bytes10_any a0 a1 a2 a3 c0 cs.length c1 c2 ds.length c3 xs ys w.heap.size w r0 r2 (by omega) (by omega) (by omega) (by omega)).mono ?_
    rintro e w ⟨hb, rfl⟩
    rcases hb.cases with rfl | rfl
    · go_wp2_with fail
      refine (fit_any a0 a1 a2 a3 c0 cs.length c1 c2 ds.length c3 xs ys _ _ r0 r2 (by omega) (by omega) (by omega) (by omega)).mono ?_
      rintro e w ⟨hb, rfl⟩
      rcases hb.cases with rfl | rfl
      · go_wp2
        go_ret
        exact ⟨rfl, Below.refl _ _⟩
      · go_wp2
        go_ret
        exact ⟨rfl, Below.refl _ _⟩
    · go_wp2
      go_ret
      exact ⟨rfl, Below.refl _ _⟩
  · have e1 : ((xs.length : Int) != (cs.length : Int)) = true := by rw [bne_iff_ne]; intro e; exact g0 (by omega)
    clear h g0
    go_enter Try.func4, Try.ntmps4
    go_wp2_with fail
    refine (bytes10_any a0 a1 a2 a3 c0 cs.length c1 c2 ds.length c3 xs ys w.heap.size w r0 r2 (by omega) (by omega) (by omega) (by omega)).mono ?_
    rintro e w ⟨hb, rfl⟩
    rcases hb.cases with rfl | rfl
    · go_wp2_with fail
      refine (fit_any a0 a1 a2 a3 c0 cs.length c1 c2 ds.length c3 xs ys _ _ r0 r2 (by omega) (by omega) (by omega) (by omega)).mono ?_
      rintro e w ⟨hb, rfl⟩
      rcases hb.cases with rfl | rfl
      · go_wp2
        go_ret
        exact ⟨rfl, Below.refl _ _⟩
      · go_wp2
        go_ret
        exact ⟨rfl, Below.refl _ _⟩
    · go_wp2
      go_ret
      exact ⟨rfl, Below.refl _ _⟩
end Go.Proofs.Qxb6625905a
