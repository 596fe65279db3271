/-
  Seat b6626226a: THE WALKS of countPass, ZZcountPass, zzTimed.
-/
import Derived.Test.Qxb6626226aRows
import Derived.Test.Qxb6626226aPlain
import Derived.WalkKit
import Derived.WalkSpells
import Derived.WalkLawsBesides
namespace Go.Proofs.Qxb6626226a
open Go.RowKit

theorem ret_int {k : IntKind} {a b : Int} (h : a = b) : Ending.returned (.int k a) = .returned (.int k b) := by rw [h]
theorem ret_bool {b c : Bool} (h : b = c) : Ending.returned (.bool b) = .returned (.bool c) := by rw [h]

theorem step_zero {s : Int} (h : (s == 0) = true) : s = Plain.step s := by
  have : s = 0 := by simpa using h
  rw [this]; rfl
theorem step_round {s : Int} (h0 : -9223372036854775808 ≤ s) (h1 : s ≤ 9223372036854775807) (h : (s == 0) = false) (hc : (bits .and .i64 s 124 == 124) = true) :
    bits .or .i64 (bits .andNot .i64 s 124) 64 = Plain.step s := by
  have h' : s ≠ 0 := by simpa using h
  rw [Plain.and124, beq_iff_eq] at hc
  rw [Plain.andNot124 s h0 h1, Plain.or64 _ (by omega) (by omega) (by omega)]
  unfold Plain.step
  rw [if_neg h', if_pos (by omega)]
  omega
theorem step_up {s : Int} (h0 : -9223372036854775808 ≤ s) (h1 : s ≤ 9223372036854775807) (h : (s == 0) = false) (hc : (bits .and .i64 s 124 == 124) = false) :
    wrap64 (s + 4) = Plain.step s := by
  have h' : s ≠ 0 := by simpa using h
  rw [Plain.and124, beq_eq_false_iff_ne] at hc
  unfold Plain.step
  rw [if_neg h', if_neg (by omega)]
  unfold wrap64
  omega

set_option maxHeartbeats 400000 in
theorem count_any (s : Int) (h0 : -9223372036854775808 ≤ s) (h1 : s ≤ 9223372036854775807) (w : World) :
    Calls Try.prog 7 #[.int .i64 s] w fun e w' => e = .returned (.int .i64 (Plain.step s)) ∧ w' = w := by
  go_enter Try.func7, Try.ntmps7
  go_wp2
  · go_ret
    exact ⟨ret_int (step_zero ‹_›), rfl⟩
  · go_ret
    exact ⟨ret_int (step_round h0 h1 ‹_› ‹_›), rfl⟩
  · go_ret
    exact ⟨ret_int (step_up h0 h1 ‹_› ‹_›), rfl⟩

set_option maxHeartbeats 400000 in
theorem zzcount_any (s : Int) (h0 : -9223372036854775808 ≤ s) (h1 : s ≤ 9223372036854775807) (w : World) :
    Calls Try.prog 5 #[.int .i64 s] w fun e w' => e = .returned (.int .i64 (Plain.step s)) ∧ w' = w := by
  go_enter Try.func5, Try.ntmps5
  go_wp2_with (go_at_call 7; refine (count_any s h0 h1 _).mono ?_; rintro e w' ⟨rfl, rfl⟩)
  go_ret
  exact ⟨rfl, rfl⟩

/-! ### What the loop leaves -/
theorem rest_kept {s a j : Int} (hj : 0 ≤ j) (h0 : -9223372036854775808 ≤ s) (h1 : s ≤ 9223372036854775807) (ha0 : -9223372036854775808 ≤ a) (ha1 : a ≤ 9223372036854775807) (ha : a = Plain.after s j) :
    (bits .andNot .i64 a 124 != bits .andNot .i64 s 124) = false := by
  rw [bne_eq_false_iff_eq, Plain.andNot124 a ha0 ha1, Plain.andNot124 s h0 h1, ha]
  exact Plain.after_rest s j hj

theorem count_of {s a j : Int} (hj : 0 ≤ j) (ha : a = Plain.after s j) : bits .and .i64 (a / 4) 31 = Plain.cnt (bits .and .i64 (s / 4) 31 + j) := by
  have h := Plain.after_count s j hj
  rw [Plain.and31, Plain.and31, ha, show s / 4 % 32 = s % 128 / 4 by omega, ← h]
  omega

theorem low (s : Int) : 0 ≤ bits .and .i64 (s / 4) 31 ∧ bits .and .i64 (s / 4) 31 ≤ 31 := by
  rw [Plain.and31]
  omega

theorem fin_ge {s a j : Int} (hj : 0 ≤ j) (ha : a = Plain.after s j) (h : 32 ≤ bits .and .i64 (s / 4) 31 + j) :
    (bits .and .i64 (a / 4) 31 == 16 + (bits .and .i64 (s / 4) 31 + j) % 16) = true := by
  rw [beq_iff_eq, count_of hj ha]
  unfold Plain.cnt
  rw [if_neg (by omega)]

theorem fin_lt {s a j : Int} (hj : 0 ≤ j) (ha : a = Plain.after s j) (h : bits .and .i64 (s / 4) 31 + j < 32) :
    (bits .and .i64 (a / 4) 31 == bits .and .i64 (s / 4) 31 + j) = true := by
  rw [beq_iff_eq, count_of hj ha]
  unfold Plain.cnt
  rw [if_pos h]

set_option maxHeartbeats 400000 in
theorem steps_in (s : Int) (k : Int) (h0 : -9223372036854775808 ≤ s) (h1 : s ≤ 9223372036854775807) (hk0 : 0 ≤ k) (hk1 : k ≤ 65536) (hs : (s == 0) = false) (w : World) :
    Calls Try.prog 3 #[.int .i64 s, .int .i64 k] w fun e w' => e = .returned (.bool true) ∧ w' = w := by
  go_enter Try.func3, Try.ntmps3
  go_wp2
  go_loop [5, 6] (fun t i => ∃ (a : Int) (j : Int), 0 ≤ j ∧ j ≤ k ∧ -9223372036854775808 ≤ a ∧ a ≤ 9223372036854775807 ∧ t = .int .i64 a ∧ i = .int .i64 j ∧ Hid (a = Plain.after s j)) (fun _ i => (k - intOf i).toNat)
  case atStart => exact ⟨s, 0, by omega, by omega, h0, h1, rfl, rfl, (Plain.after_zero s).symm⟩
  case round =>
    obtain ⟨a, j, hj0, hj1, ha0, ha1, rfl, rfl, ha⟩ := hrel
    by_cases hlt : j < k
    · go_wp2_with (go_at_call 5; refine (zzcount_any a ha0 ha1 _).mono ?_; rintro e w' ⟨rfl, rfl⟩)
      go_round
      case rel =>
        have hs' : s ≠ 0 := by simpa using hs
        have e : Plain.step a = Plain.after s (j + 1) := by rw [ha.out]; exact Plain.after_step s j hj0 hs'
        have hb := Plain.after_bounds s (j + 1) (by omega) h0 h1
        rw [← e] at hb
        exact ⟨Plain.step a, j + 1, by omega, by omega, hb.1, hb.2, rfl, rfl, e⟩
      case measure => simp [intOf]; omega
    · have hjk : j = k := by omega
      subst hjk
      have hrest := rest_kept hj0 h0 h1 ha0 ha1 ha.out
      obtain ⟨hl0, hl1⟩ := low s
      by_cases hn : 32 ≤ bits .and .i64 (s / 4) 31 + j
      · go_wp2
        go_ret
        exact ⟨ret_bool (fin_ge hj0 ha.out hn), rfl⟩
      · have hn' : bits .and .i64 (s / 4) 31 + j < 32 := by omega
        go_wp2
        go_ret
        exact ⟨ret_bool (fin_lt hj0 ha.out hn'), rfl⟩

set_option maxHeartbeats 400000 in
theorem steps_zero (s : Int) (k : Int) (hk0 : 0 ≤ k) (hk1 : k ≤ 65536) (hs : s = 0) (w : World) :
    Calls Try.prog 3 #[.int .i64 s, .int .i64 k] w fun e w' => e = .returned (.bool true) ∧ w' = w := by
  subst hs
  go_enter Try.func3, Try.ntmps3
  go_wp2
  go_loop [5, 6] (fun t i => ∃ j : Int, 0 ≤ j ∧ j ≤ k ∧ t = .int .i64 0 ∧ i = .int .i64 j) (fun _ i => (k - intOf i).toNat)
  case atStart => exact ⟨0, by omega, by omega, rfl, rfl⟩
  case round =>
    obtain ⟨j, hj0, hj1, rfl, rfl⟩ := hrel
    by_cases hlt : j < k
    · go_wp2_with (go_at_call 5; refine (zzcount_any 0 (by decide) (by decide) _).mono ?_; rintro e w' ⟨rfl, rfl⟩)
      go_round
      case rel => exact ⟨j + 1, by omega, by omega, rfl, rfl⟩
      case measure => simp [intOf]; omega
    · go_wp2
      go_ret
      exact ⟨rfl, rfl⟩

set_option maxHeartbeats 400000 in
theorem steps_out (s : Int) (k : Int) (h : k < 0 ∨ 65536 < k) (w : World) :
    Calls Try.prog 3 #[.int .i64 s, .int .i64 k] w fun e w' => e = .returned (.bool true) ∧ w' = w := by
  rcases h with h | h
  · go_enter Try.func3, Try.ntmps3
    go_wp2
    go_ret
    exact ⟨rfl, rfl⟩
  · have h' : ¬ k < 0 := by omega
    go_enter Try.func3, Try.ntmps3
    go_wp2
    go_ret
    exact ⟨rfl, rfl⟩

theorem steps_walk (s : Int) (k : Int) (h0 : -9223372036854775808 ≤ s) (h1 : s ≤ 9223372036854775807) (w : World) :
    Calls Try.prog 3 #[.int .i64 s, .int .i64 k] w fun e w' => e = .returned (.bool true) ∧ w' = w := by
  by_cases h : k < 0 ∨ 65536 < k
  · exact steps_out s k h w
  · by_cases hs : s = 0
    · exact steps_zero s k (by omega) (by omega) hs w
    · exact steps_in s k h0 h1 (by omega) (by omega) (by simpa using hs) w
end Go.Proofs.Qxb6626226a
