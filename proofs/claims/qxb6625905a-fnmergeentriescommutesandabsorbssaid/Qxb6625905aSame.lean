/-
  Seat b6625905a: THE WALK of zzSameEntries where the two lists are the same.
-/
import Derived.Test.Qxb6625905aLeaf
namespace Go.Proofs.Qxb6625905a
open Go.RowKit Plain

set_option maxHeartbeats 400000 in
theorem same_none (a0 a1 a2 a3 : Option Addr) (c0 c1 c2 c3 : Nat) (w : World) :
    Calls Try.prog 11 #[.slice a0 0 c0, .slice a1 0 c1, .slice a2 0 c2, .slice a3 0 c3] w fun e w' => e = .returned (.bool true) ∧ w' = w := by
  go_enter Try.func11, Try.ntmps11
  go_wp2
  go_loop [9] (fun i => i = .int .i64 0) (fun _ => 0)
  case atStart => rfl
  case round =>
    obtain rfl := hrel
    go_wp2
    go_ret
    exact ⟨rfl, rfl⟩

set_option maxHeartbeats 1000000 in
theorem same_some (b0 o0 b1 o1 b2 o2 b3 o3 n c0 c1 c2 c3 : Nat) (xs : List ByteArray) (cs : List Int) (hn : xs.length = n) (hm : cs.length = n) (h63 : n ≤ 1048576) (w : World)
    (h0 : ∀ j (h : j < xs.length), w.cell? ⟨b0, o0 + j, none⟩ = some (.string xs[j])) (h1 : ∀ j (h : j < cs.length), w.cell? ⟨b1, o1 + j, none⟩ = some (.int .u64 cs[j]))
    (h2 : ∀ j (h : j < xs.length), w.cell? ⟨b2, o2 + j, none⟩ = some (.string xs[j])) (h3 : ∀ j (h : j < cs.length), w.cell? ⟨b3, o3 + j, none⟩ = some (.int .u64 cs[j])) :
    Calls Try.prog 11 #[.slice (some ⟨b0, o0, none⟩) n c0, .slice (some ⟨b1, o1, none⟩) n c1, .slice (some ⟨b2, o2, none⟩) n c2, .slice (some ⟨b3, o3, none⟩) n c3] w fun e w' => e = .returned (.bool true) ∧ ∃ q, w' = w.drewN q := by
  go_enter Try.func11, Try.ntmps11
  go_wp2
  go_loopw [9] (fun i wr => ∃ k q : Nat, k ≤ n ∧ i = .int .i64 k ∧ wr = w.drewN q) (fun i _ => n - (intOf i).toNat)
  case atStart => exact ⟨0, 0, by omega, rfl, rfl⟩
  case round =>
    obtain ⟨k, q, hk, rfl, rfl⟩ := hrel
    by_cases hlt : k < n
    · obtain ⟨X, hX⟩ : ∃ X, X = xs[k]'(by omega) := ⟨_, rfl⟩
      obtain ⟨C, hC⟩ : ∃ C, C = cs[k]'(by omega) := ⟨_, rfl⟩
      have k0 : w.cell? ⟨b0, o0 + k, none⟩ = some (.string X) := by rw [hX]; exact h0 k (by omega)
      have k1 : w.cell? ⟨b1, o1 + k, none⟩ = some (.int .u64 C) := by rw [hC]; exact h1 k (by omega)
      have k2 : w.cell? ⟨b2, o2 + k, none⟩ = some (.string X) := by rw [hX]; exact h2 k (by omega)
      have k3 : w.cell? ⟨b3, o3 + k, none⟩ = some (.int .u64 C) := by rw [hC]; exact h3 k (by omega)
      clear hX hC h0 h1 h2 h3
      go_wp2
      go_quiet (fail)
      go_wp2
      go_roundw
      case rel => exact ⟨k + 1, q + nq, by omega, by go_num, rfl⟩
      case measure => simp [intOf]; omega
    · clear h0 h1 h2 h3
      go_wp2
      go_ret
      exact ⟨rfl, q, rfl⟩

/-- zzSameEntries at two lists that are the same. -/
theorem same_any (B : Nat) (a0 a1 a2 a3 : Option Addr) (c0 c1 c2 c3 : Nat) (xs : List ByteArray) (cs : List Int) (hm : cs.length = xs.length) (h63 : xs.length ≤ 1048576) (w : World)
    (h0 : Rd S B w a0 xs) (h1 : Rd U B w a1 cs) (h2 : Rd S B w a2 xs) (h3 : Rd U B w a3 cs) :
    Calls Try.prog 11 #[.slice a0 xs.length c0, .slice a1 cs.length c1, .slice a2 xs.length c2, .slice a3 cs.length c3] w fun e w' => e = .returned (.bool true) ∧ ∃ q, w' = w.drewN q := by
  by_cases hx : xs = []
  · subst hx
    have hc : cs = [] := List.eq_nil_of_length_eq_zero hm
    subst hc
    refine (same_none a0 a1 a2 a3 c0 c1 c2 c3 w).mono ?_
    rintro e w' ⟨rfl, rfl⟩
    exact ⟨rfl, 0, rfl⟩
  · have hc : cs ≠ [] := fun e => hx (List.eq_nil_of_length_eq_zero (by rw [← hm, e]; rfl))
    obtain ⟨b0, o0, rfl, _, k0⟩ := h0 hx
    obtain ⟨b1, o1, rfl, _, k1⟩ := h1 hc
    obtain ⟨b2, o2, rfl, _, k2⟩ := h2 hx
    obtain ⟨b3, o3, rfl, _, k3⟩ := h3 hc
    have := same_some b0 o0 b1 o1 b2 o2 b3 o3 xs.length c0 c1 c2 c3 xs cs rfl hm h63 w k0 k1 k2 k3
    rw [hm]
    exact this
end Go.Proofs.Qxb6625905a
