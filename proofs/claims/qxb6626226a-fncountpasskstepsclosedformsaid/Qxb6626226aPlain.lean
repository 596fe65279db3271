/-
  Seat b6626226a: PLAIN LAWS: the pass count of a state word in arithmetic; the counter after n passes. No program.
-/
import Derived.Laws.BitsAllLaws
import Derived.Laws.BitsLemmas
namespace Go.Proofs.Qxb6626226a.Plain

/-! ### On natural numbers -/
theorem nat_and124 (x : Nat) : x &&& 124 = x % 128 / 4 * 4 := nat_midmask 7 2 x (by decide)
theorem nat_split (x : Nat) : x &&& 18446744073709551491 = x % 18446744073709551616 / 128 * 128 + x % 4 := by
  have e : (18446744073709551491 : Nat) = 18446744073709551488 ||| 3 := by decide
  rw [e, Nat.and_or_distrib_left, nat_mask2, show x &&& 18446744073709551488 = x % 18446744073709551616 / 128 * 128 from nat_midmask 64 7 x (by decide)]
  exact nat_join 7 _ _ (by omega) (by omega)
theorem nat_or64 (a b : Nat) (hb : b < 4) : (a * 128 + b) ||| 64 = a * 128 + b + 64 := by
  have h1 : a * 128 + b = a * 128 ||| b := (nat_join 7 (a * 128) b (by omega) (by omega)).symm
  have h2 : b ||| 64 = 64 + b := by rw [Nat.or_comm]; exact nat_join 6 64 b (by decide) (by omega)
  have h3 : a * 128 ||| (64 + b) = a * 128 + (64 + b) := nat_join 7 (a * 128) (64 + b) (by omega) (by omega)
  rw [h1, Nat.or_assoc, h2, h3, ← h1]
  omega

/-! ### On int64 -/
theorem word (s : Int) : ∃ x : Nat, (BitVec.ofInt 64 s).toNat = x ∧ (x : Int) = s % 18446744073709551616 := by
  refine ⟨_, rfl, ?_⟩
  rw [BitVec.toNat_ofInt]
  omega

theorem and124 (s : Int) : bits .and .i64 s 124 = s % 128 / 4 * 4 := by
  obtain ⟨x, hx, hx'⟩ := word s
  show IntKind.i64.wrap ((BitVec.ofInt 64 s &&& BitVec.ofInt 64 124).toNat : Int) = _
  rw [BitVec.toNat_and, hx, show (BitVec.ofInt 64 124).toNat = 124 from rfl, nat_and124, IntKind.wrap_i64]
  omega

theorem and31 (s : Int) : bits .and .i64 s 31 = s % 32 := by
  obtain ⟨x, hx, hx'⟩ := word s
  show IntKind.i64.wrap ((BitVec.ofInt 64 s &&& BitVec.ofInt 64 31).toNat : Int) = _
  rw [BitVec.toNat_and, hx, show (BitVec.ofInt 64 31).toNat = 31 from rfl, nat_mask5, IntKind.wrap_i64]
  omega

theorem andNot124 (s : Int) (h0 : -9223372036854775808 ≤ s) (h1 : s ≤ 9223372036854775807) : bits .andNot .i64 s 124 = s - s % 128 / 4 * 4 := by
  obtain ⟨x, hx, hx'⟩ := word s
  show IntKind.i64.wrap ((BitVec.ofInt 64 s &&& ~~~ BitVec.ofInt 64 124).toNat : Int) = _
  rw [BitVec.toNat_and, hx, show (~~~ BitVec.ofInt 64 124).toNat = 18446744073709551491 from rfl, nat_split, IntKind.wrap_i64]
  omega

theorem or64 (s : Int) (h0 : -9223372036854775808 ≤ s) (h1 : s ≤ 9223372036854775807) (hc : s % 128 / 4 = 0) : bits .or .i64 s 64 = s + 64 := by
  obtain ⟨x, hx, hx'⟩ := word s
  show IntKind.i64.wrap ((BitVec.ofInt 64 s ||| BitVec.ofInt 64 64).toNat : Int) = _
  have hx2 : x = x / 128 * 128 + x % 4 := by omega
  rw [BitVec.toNat_or, hx, show (BitVec.ofInt 64 64).toNat = 64 from rfl, hx2, nat_or64 _ _ (by omega), IntKind.wrap_i64]
  omega

/-! ### The counter -/
/-- countPass. -/
def step (s : Int) : Int := if s = 0 then 0 else if s % 128 / 4 = 31 then s - 60 else s + 4
/-- What the count of n passes is kept as. -/
def cnt (n : Int) : Int := if n < 32 then n else 16 + n % 16
/-- The word after i passes from s. -/
def after (s i : Int) : Int := s - s % 128 / 4 * 4 + cnt (s % 128 / 4 + i) * 4

theorem cnt_range (n : Int) (h : 0 ≤ n) : 0 ≤ cnt n ∧ cnt n ≤ 31 := by
  unfold cnt
  split <;> omega

theorem after_zero (s : Int) : after s 0 = s := by
  unfold after cnt
  rw [if_pos (by omega)]
  omega

theorem after_count (s i : Int) (hi : 0 ≤ i) : after s i % 128 / 4 = cnt (s % 128 / 4 + i) := by
  have := cnt_range (s % 128 / 4 + i) (by omega)
  unfold after
  omega

theorem after_rest (s i : Int) (hi : 0 ≤ i) : after s i - after s i % 128 / 4 * 4 = s - s % 128 / 4 * 4 := by
  rw [after_count s i hi]
  unfold after
  omega

theorem after_bounds (s i : Int) (hi : 0 ≤ i) (h0 : -9223372036854775808 ≤ s) (h1 : s ≤ 9223372036854775807) : -9223372036854775808 ≤ after s i ∧ after s i ≤ 9223372036854775807 := by
  have := cnt_range (s % 128 / 4 + i) (by omega)
  unfold after
  omega

theorem after_ne (s i : Int) (hi : 0 ≤ i) (hs : s ≠ 0) : after s i ≠ 0 := by
  intro h
  have h1 := after_count s i hi
  rw [h] at h1
  have h2 : cnt (s % 128 / 4 + i) = 0 := by omega
  have h3 : s % 128 / 4 + i = 0 := by
    unfold cnt at h2
    split at h2 <;> omega
  have h4 : i = 0 := by omega
  rw [h4, after_zero] at h
  exact hs h

theorem after_step (s i : Int) (hi : 0 ≤ i) (hs : s ≠ 0) : step (after s i) = after s (i + 1) := by
  unfold step
  rw [if_neg (after_ne s i hi hs), after_count s i hi]
  unfold after cnt
  split <;> split <;> split <;> omega

/-- The clock rule. -/
theorem timed (w n : Int) (hw : 0 ≤ w) : (decide (w + cnt n < 16) || (w + cnt n) % 16 == 0) = (decide (w + n < 16) || (w + n) % 16 == 0) := by
  unfold cnt
  split
  · rfl
  · have h1 : ¬ (w + (16 + n % 16) < 16) := by omega
    have h2 : ¬ (w + n < 16) := by omega
    have h3 : (w + (16 + n % 16)) % 16 = (w + n) % 16 := by omega
    simp [h1, h2, h3]

end Go.Proofs.Qxb6626226a.Plain
