/-
  Seat b6626226a: THE WALK of FnCountPassKeepsTimingOfTrueCount.
-/
import Derived.Test.Qxb6626226aWalks
namespace Go.Proofs.Qxb6626226a
open Go.RowKit

/-- zzTimed. -/
def timedB (n : Int) : Bool := decide (n < 16) || n % 16 == 0

set_option maxHeartbeats 400000 in
theorem timed_any (n : Int) (h0 : 0 ≤ n) (h1 : n ≤ 1048576) (w : World) :
    Calls Try.prog 6 #[.int .i64 n] w fun e w' => e = .returned (.bool (timedB n)) ∧ w' = w := by
  by_cases h : n < 16
  · have e : timedB n = true := by simp [timedB, h]
    rw [e]
    go_enter Try.func6, Try.ntmps6
    go_wp2
    go_ret
    exact ⟨rfl, rfl⟩
  · have e : timedB n = (n % 16 == 0) := by simp [timedB, h]
    rw [e]
    go_enter Try.func6, Try.ntmps6
    go_wp2
    go_ret
    exact ⟨rfl, rfl⟩

theorem timed_same {s a j w : Int} (hj : 0 ≤ j) (hw : 0 ≤ w) (ha : a = Plain.after s j) :
    timedB (w + bits .and .i64 (a / 4) 31) = timedB (w + (bits .and .i64 (s / 4) 31 + j)) := by
  rw [count_of hj ha]
  exact Plain.timed w _ hw

set_option maxHeartbeats 400000 in
theorem timed_in (s k v : Int) (h0 : -9223372036854775808 ≤ s) (h1 : s ≤ 9223372036854775807) (hk0 : 0 ≤ k) (hk1 : k ≤ 65536) (hv0 : 0 ≤ v) (hv1 : v ≤ 65536) (hs : (s == 0) = false) (w : World) :
    Calls Try.prog 4 #[.int .i64 s, .int .i64 k, .int .i64 v] w fun e w' => e = .returned (.bool true) ∧ w' = w := by
  go_enter Try.func4, Try.ntmps4
  go_wp2
  go_loop [7, 8] (fun t i => ∃ (a : Int) (j : Int), 0 ≤ j ∧ j ≤ k ∧ -9223372036854775808 ≤ a ∧ a ≤ 9223372036854775807 ∧ t = .int .i64 a ∧ i = .int .i64 j ∧ Hid (a = Plain.after s j)) (fun _ i => (k - intOf i).toNat)
  case atStart => exact ⟨s, 0, by omega, by omega, h0, h1, rfl, rfl, (Plain.after_zero s).symm⟩
  case round =>
    obtain ⟨a, j, hj0, hj1, ha0, ha1, rfl, rfl, ha⟩ := hrel
    by_cases hlt : j < k
    · go_wp2_with (go_at_call 5; refine (zzcount_any a ha0 ha1 _).mono ?_; rintro e w' ⟨rfl, rfl⟩)
      go_round
      case rel =>
        have hs' : s ≠ 0 := by simpa using hs
        have e : Plain.step a = Plain.after s (j + 1) := by rw [ha.out]; exact Plain.after_step s j hj0 hs'
        have hb := Plain.after_bounds s (j + 1) (by omega) h0 h1
        rw [← e] at hb
        exact ⟨Plain.step a, j + 1, by omega, by omega, hb.1, hb.2, rfl, rfl, e⟩
      case measure => simp [intOf]; omega
    · have hjk : j = k := by omega
      subst hjk
      have hrest := rest_kept hj0 h0 h1 ha0 ha1 ha.out
      have hne : (a == 0) = false := by
        rw [beq_eq_false_iff_ne, ha.out]
        exact Plain.after_ne s j hj0 (by simpa using hs)
      obtain ⟨hl0, hl1⟩ := low s
      obtain ⟨hc0, hc1⟩ := low a
      go_wp2_with fail
      refine (timed_any (v + bits .and .i64 (a / 4) 31) (by omega) (by omega) _).mono ?_
      rintro e w' ⟨rfl, rfl⟩
      go_wp2_with fail
      refine (timed_any (v + (bits .and .i64 (s / 4) 31 + j)) (by omega) (by omega) _).mono ?_
      rintro e w' ⟨rfl, rfl⟩
      go_wp2_with fail
      go_ret
      exact ⟨ret_bool (by rw [timed_same hj0 hv0 ha.out]; simp), rfl⟩

set_option maxHeartbeats 400000 in
theorem timed_zero (s k v : Int) (hk0 : 0 ≤ k) (hk1 : k ≤ 65536) (hv0 : 0 ≤ v) (hv1 : v ≤ 65536) (hs : s = 0) (w : World) :
    Calls Try.prog 4 #[.int .i64 s, .int .i64 k, .int .i64 v] w fun e w' => e = .returned (.bool true) ∧ w' = w := by
  subst hs
  go_enter Try.func4, Try.ntmps4
  go_wp2
  go_loop [7, 8] (fun t i => ∃ j : Int, 0 ≤ j ∧ j ≤ k ∧ t = .int .i64 0 ∧ i = .int .i64 j) (fun _ i => (k - intOf i).toNat)
  case atStart => exact ⟨0, by omega, by omega, rfl, rfl⟩
  case round =>
    obtain ⟨j, hj0, hj1, rfl, rfl⟩ := hrel
    by_cases hlt : j < k
    · go_wp2_with (go_at_call 5; refine (zzcount_any 0 (by decide) (by decide) _).mono ?_; rintro e w' ⟨rfl, rfl⟩)
      go_round
      case rel => exact ⟨j + 1, by omega, by omega, rfl, rfl⟩
      case measure => simp [intOf]; omega
    · go_wp2
      go_ret
      exact ⟨rfl, rfl⟩

set_option maxHeartbeats 400000 in
theorem timed_out (s k v : Int) (h : k < 0 ∨ 65536 < k ∨ v < 0 ∨ 65536 < v) (w : World) :
    Calls Try.prog 4 #[.int .i64 s, .int .i64 k, .int .i64 v] w fun e w' => e = .returned (.bool true) ∧ w' = w := by
  by_cases c1 : k < 0
  · clear h
    go_enter Try.func4, Try.ntmps4
    go_wp2
    go_ret
    exact ⟨rfl, rfl⟩
  by_cases c2 : 65536 < k
  · clear h
    go_enter Try.func4, Try.ntmps4
    go_wp2
    go_ret
    exact ⟨rfl, rfl⟩
  by_cases c3 : v < 0
  · clear h
    go_enter Try.func4, Try.ntmps4
    go_wp2
    go_ret
    exact ⟨rfl, rfl⟩
  have c4 : 65536 < v := by omega
  clear h
  go_enter Try.func4, Try.ntmps4
  go_wp2
  go_ret
  exact ⟨rfl, rfl⟩

theorem timed_walk (s k v : Int) (h0 : -9223372036854775808 ≤ s) (h1 : s ≤ 9223372036854775807) (w : World) :
    Calls Try.prog 4 #[.int .i64 s, .int .i64 k, .int .i64 v] w fun e w' => e = .returned (.bool true) ∧ w' = w := by
  by_cases h : k < 0 ∨ 65536 < k ∨ v < 0 ∨ 65536 < v
  · exact timed_out s k v h w
  · by_cases hs : s = 0
    · exact timed_zero s k v (by omega) (by omega) (by omega) (by omega) hs w
    · exact timed_in s k v h0 h1 (by omega) (by omega) (by omega) (by omega) (by simpa using hs) w
end Go.Proofs.Qxb6626226a
