/-
  Seat b6626321a: THE WALK of FnIsNameSplitsAtAnyCut.
-/
import Derived.Test.Qxb6626321aWalks
namespace Go.Proofs.Qxb6626321a
open Go.RowKit Plain

/-! ### FnIsNameSplitsAtAnyCut -/
set_option maxHeartbeats 1000000 in
theorem split_in (s : ByteArray) (k : Nat) (hs : s.size ≤ 1048576) (hk1 : 1 ≤ k) (hk2 : k ≤ s.size) (w : World) :
    Calls Try.prog 3 #[.string s, .int .i64 k] w fun e w' => e = .returned (.bool true) ∧ w' = w := by
  have hh := head_size s k
  have ht := tail_size s k
  go_enter Try.func3, Try.ntmps3
  go_wp2_with (go_at_call 5; go_in)
  refine (isName_named s (by omega) _ rfl w).mono ?_
  rintro e w1 ⟨whole, rfl, hwhole, rfl⟩
  go_wp2_with fail
  refine (isName_named (s.extract 0 k) (by omega) _ (head_toL s k) _).mono ?_
  rintro e w1 ⟨head, rfl, hhead, rfl⟩
  go_wp2_with fail
  refine (isName_named _ ?hsz (95 :: s.data.toList.drop k) ?hl _).mono ?_
  case hsz => rw [append_size, show (⟨#[95]⟩ : ByteArray).size = 1 from rfl]; omega
  case hl => rw [under_toL, tail_toL]
  rintro e w1 ⟨tail, rfl, htail, rfl⟩
  go_wp2_with fail
  refine (shaped_named (s.extract 0 k) (by omega) _ (head_toL s k) _).mono ?_
  rintro e w1 ⟨shaped, rfl, hshaped, rfl⟩
  have h1 : shaped = head := by rw [hshaped.out, hhead.out]
  have h2 : whole = (head && tail) := by
    rw [hwhole.out, hhead.out, htail.out]
    exact split s.data.toList k hk1 (by simpa using hk2)
  clear hwhole hhead htail hshaped
  subst h1 h2
  cases shaped <;> cases tail <;> (go_wp2_with fail; go_ret; exact ⟨rfl, rfl⟩)

set_option maxHeartbeats 400000 in
theorem split_out (s : ByteArray) (k : Int) (hm : s.size ≤ maxLen) (h : 1048576 < s.size ∨ k < 1 ∨ (s.size : Int) < k) (w : World) :
    Calls Try.prog 3 #[.string s, .int .i64 k] w fun e w' => e = .returned (.bool true) ∧ w' = w := by
  unfold maxLen at hm
  by_cases c1 : 1048576 < s.size
  · clear h
    go_enter Try.func3, Try.ntmps3
    go_wp2_with (go_at_call 5; go_in)
    go_ret
    exact ⟨rfl, rfl⟩
  by_cases c2 : k < 1
  · clear h
    go_enter Try.func3, Try.ntmps3
    go_wp2_with (go_at_call 5; go_in)
    go_ret
    exact ⟨rfl, rfl⟩
  have c3 : (s.size : Int) < k := by omega
  clear h
  go_enter Try.func3, Try.ntmps3
  go_wp2_with (go_at_call 5; go_in)
  go_ret
  exact ⟨rfl, rfl⟩

/-- FnIsNameSplitsAtAnyCut returns true, whatever the input. -/
theorem split_walk (s : ByteArray) (k : Int) (hm : s.size ≤ maxLen) (w : World) :
    Calls Try.prog 3 #[.string s, .int .i64 k] w fun e w' => e = .returned (.bool true) ∧ w' = w := by
  by_cases h : 1048576 < s.size ∨ k < 1 ∨ (s.size : Int) < k
  · exact split_out s k hm h w
  · obtain ⟨j, rfl⟩ := Int.eq_ofNat_of_zero_le (show 0 ≤ k by omega)
    exact split_in s j (by omega) (by omega) (by omega) w
end Go.Proofs.Qxb6626321a
