/-
  Seat b6625905a: THE WALK of zzBuildEntries.
-/
import Derived.Test.Qxb6625905aMem
namespace Go.Proofs.Qxb6625905a
open Go.RowKit Plain

set_option maxHeartbeats 400000 in
theorem build_nil (a1 : Option Addr) (n1 c0 c1 n0 : Nat) (w : World) :
    Calls Try.prog 13 #[.slice none n0 c0, .slice a1 n1 c1] w fun e w' => e = .returned (.slice none 0 0) ∧ w' = w := by
  have hnil := fun (w : World) => Lib.run_eql_slice_nil (P := Try.prog) w 22 9 none n0 c0 0 0 Try.underlying22
  go_enter Try.func13, Try.ntmps13
  go_wp2
  go_ret
  exact ⟨rfl, rfl⟩

set_option maxHeartbeats 400000 in
theorem build_some (b0 o0 b1 o1 n c0 c1 : Nat) (xs : List ByteArray) (cs : List Int) (hn : xs.length = n) (hm : cs.length = n) (h63 : n ≤ 1048576) (w : World)
    (h0 : ∀ j (h : j < xs.length), w.cell? ⟨b0, o0 + j, none⟩ = some (.string xs[j])) (h1 : ∀ j (h : j < cs.length), w.cell? ⟨b1, o1 + j, none⟩ = some (.int .u64 cs[j]))
    (hb0 : b0 < w.heap.size) (hb1 : b1 < w.heap.size) :
    Calls Try.prog 13 #[.slice (some ⟨b0, o0, none⟩) n c0, .slice (some ⟨b1, o1, none⟩) n c1] w fun e w' => e = .returned (.slice (some ⟨w.heap.size, 0, none⟩) n n) ∧ Blk w' w.heap.size 34 (flat (xs.zip cs)) ∧ Below w.heap.size w w' := by
  have hnil := fun (w : World) => Lib.run_eql_slice_nil (P := Try.prog) w 22 9 (some ⟨b0, o0, none⟩) n c0 0 0 Try.underlying22
  have hmk := fun (w : World) => make30 n (by omega) w
  go_enter Try.func13, Try.ntmps13
  go_wp2
  clear hmk hnil
  go_loopw [7] (fun i wr => ∃ (k : Nat) (ds : List Value), k ≤ n ∧ i = .int .i64 k ∧ Blk wr w.heap.size 34 ds ∧ Below w.heap.size w wr ∧ Hid (ds.length = n * 2 ∧ ds.take (k * 2) = flat ((xs.zip cs).take k))) (fun i _ => n - (intOf i).toNat)
  case atStart => exact ⟨0, _, by omega, rfl, blk_new w _ 34, (Below.refl _ _).alloc (Nat.le_refl _) _, by simp [size_madeCells], rfl⟩
  case round =>
    obtain ⟨k, ds, hk, rfl, hblk, hbel, hds⟩ := hrel
    by_cases hlt : k < n
    · obtain ⟨X, hX⟩ : ∃ X, X = xs[k]'(by omega) := ⟨_, rfl⟩
      obtain ⟨C, hC⟩ : ∃ C, C = cs[k]'(by omega) := ⟨_, rfl⟩
      have k0 : wr.cell? ⟨b0, o0 + k, none⟩ = some (.string X) := by rw [hX]; exact (hbel.cell (p := ⟨b0, o0 + k, none⟩) hb0).trans (h0 k (by omega))
      have k1 : wr.cell? ⟨b1, o1 + k, none⟩ = some (.int .u64 C) := by rw [hC]; exact (hbel.cell (p := ⟨b1, o1 + k, none⟩) hb1).trans (h1 k (by omega))
      have HX := Lib.hid hX
      have HC := Lib.hid hC
      have f0 := hblk.free (k * 2)
      have f1 := hblk.free (k * 2 + 1)
      obtain ⟨Z0, hZ0⟩ : ∃ Z, ds[k * 2]? = some Z := ⟨_, List.getElem?_eq_getElem (by have := hds.out.1; omega)⟩
      obtain ⟨Z1, hZ1⟩ : ∃ Z, ds[k * 2 + 1]? = some Z := ⟨_, List.getElem?_eq_getElem (by have := hds.out.1; omega)⟩
      have g0 : wr.cell? ⟨w.heap.size, k * 2, none⟩ = some Z0 := (hblk.cell _).trans hZ0
      have g1 : wr.cell? ⟨w.heap.size, k * 2 + 1, none⟩ = some Z1 := (hblk.cell _).trans hZ1
      clear h0 h1 hX hC hZ0 hZ1
      go_wp2
      go_region
      all_goals go_wp2
      go_roundw
      case rel =>
        refine ⟨k + 1, _, by omega, by go_num, (hblk.set (k * 2) (.string X)).set (k * 2 + 1) (.int .u64 C), ((hbel.setCell (Nat.le_refl _) _).setCell (Nat.le_refl _) _).drew, head_step hds.out hlt ?_⟩
        rw [List.getElem?_zip_eq_some]
        exact ⟨by rw [HX.out]; exact List.getElem?_eq_getElem _, by rw [HC.out]; exact List.getElem?_eq_getElem _⟩
      case measure => simp [intOf]; omega
    · have hkn : k = n := by omega
      clear h0 h1
      go_wp2
      go_ret
      refine ⟨rfl, ?_, hbel⟩
      have h2 := hds.out
      rw [hkn, List.take_of_length_le (by omega), List.take_of_length_le (by rw [List.length_zip]; omega)] at h2
      rw [← h2.2]
      exact hblk
end Go.Proofs.Qxb6625905a
