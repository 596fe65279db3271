/-
  Seat b6626321a: THE WALKS of the byte tests, IsName and zzNameShaped.
-/
import Derived.Test.Qxb6626321aRows
import Derived.Test.Qxb6626321aPlain
import Derived.WalkKit
import Derived.WalkSpells
import Derived.WalkLawsBesides
namespace Go.Proofs.Qxb6626321a
open Go.RowKit Plain

theorem ret_bool {b c : Bool} (h : b = c) : Ending.returned (.bool b) = .returned (.bool c) := by rw [h]
theorem toL (z : ByteArray) : z.toList = z.data.toList := ByteArray.toList_eq z

set_option maxHeartbeats 400000 in
theorem nameStart_any (n : Int) (h0 : 0 ≤ n) (h1 : n ≤ 255) (w : World) :
    Calls Try.prog 11 #[.int .u8 n] w fun e w' => e = .returned (.bool (startI n)) ∧ w' = w := by
  go_enter Try.func11, Try.ntmps11
  go_wp2
  all_goals
    go_ret
    refine ⟨ret_bool ?_, rfl⟩
    unfold startI
    rw [Bool.eq_iff_iff]
    simp
    try omega

set_option maxHeartbeats 400000 in
theorem digit_any (n : Int) (h0 : 0 ≤ n) (h1 : n ≤ 255) (w : World) :
    Calls Try.prog 13 #[.int .u8 n] w fun e w' => e = .returned (.bool (digI n)) ∧ w' = w := by
  go_enter Try.func13, Try.ntmps13
  go_wp2
  all_goals
    go_ret
    refine ⟨ret_bool ?_, rfl⟩
    unfold digI
    rw [Bool.eq_iff_iff]
    simp
    try omega

set_option maxHeartbeats 400000 in
theorem zzDigit_any (n : Int) (h0 : 0 ≤ n) (h1 : n ≤ 255) (w : World) :
    Calls Try.prog 10 #[.int .u8 n] w fun e w' => e = .returned (.bool (digI n)) ∧ w' = w := by
  rw [← dig_fold n h0 h1]
  go_enter Try.func10, Try.ntmps10
  go_wp2
  go_ret
  exact ⟨rfl, rfl⟩

set_option maxHeartbeats 400000 in
theorem zzStart_any (n : Int) (h0 : 0 ≤ n) (h1 : n ≤ 255) (w : World) :
    Calls Try.prog 9 #[.int .u8 n] w fun e w' => e = .returned (.bool (startI n)) ∧ w' = w := by
  by_cases h : n = 95
  · subst h
    go_enter Try.func9, Try.ntmps9
    go_wp2
    go_ret
    exact ⟨rfl, rfl⟩
  · have h' : (n == 95) = false := by simpa using h
    rw [← start_fold n h0 h1 h']
    clear h
    go_enter Try.func9, Try.ntmps9
    go_wp2
    go_ret
    exact ⟨rfl, rfl⟩

set_option maxHeartbeats 400000 in
theorem nameByte_any (n : Int) (h0 : 0 ≤ n) (h1 : n ≤ 255) (w : World) :
    Calls Try.prog 12 #[.int .u8 n] w fun e w' => e = .returned (.bool (nameI n)) ∧ w' = w := by
  unfold nameI
  go_enter Try.func12, Try.ntmps12
  go_wp2_with (first | (go_at_call 11; refine (nameStart_any n h0 h1 _).mono ?_; rintro e w' ⟨rfl, rfl⟩) | (go_at_call 13; refine (digit_any n h0 h1 _).mono ?_; rintro e w' ⟨rfl, rfl⟩))
  all_goals
    go_ret
    refine ⟨ret_bool ?_, rfl⟩
    simp [*]

theorem byte_le (c : UInt8) : 0 ≤ (c.toNat : Int) ∧ (c.toNat : Int) ≤ 255 := by
  have := c.toNat_lt
  omega

theorem empty_of (s : ByteArray) (h : s.size = 0) : s.toList.isEmpty = true := by
  rw [toL, List.isEmpty_iff]
  exact List.eq_nil_of_length_eq_zero (by simpa using h)
theorem not_empty_of (s : ByteArray) (h : 0 < s.size) : s.toList.isEmpty = false := by
  rw [toL, List.isEmpty_eq_false_iff]
  intro e
  have := congrArg List.length e
  rw [Array.length_toList, List.length_nil] at this
  exact absurd this (Nat.ne_of_gt h)

set_option maxHeartbeats 400000 in
theorem isName_none (s : ByteArray) (h : s.size = 0) (w : World) :
    Calls Try.prog 6 #[.string s] w fun e w' => e = .returned (.bool (isName s.data.toList)) ∧ w' = w := by
  rw [isName_empty s h]
  have he := empty_of s h
  clear h
  go_enter Try.func6, Try.ntmps6
  go_wp2
  go_ret
  exact ⟨rfl, rfl⟩

set_option maxHeartbeats 400000 in
theorem isName_some (s : ByteArray) (hm : s.size ≤ 9223372036854775807) (h : 0 < s.size) (w : World) :
    Calls Try.prog 6 #[.string s] w fun e w' => e = .returned (.bool (isName s.data.toList)) ∧ w' = w := by
  rw [isName_at s h]
  have he := not_empty_of s h
  have hb := byte_le s[0]
  by_cases hst : startI (s[0].toNat : Int) = true
  · rw [hst, Bool.true_and]
    go_enter Try.func6, Try.ntmps6
    go_wp2_with (go_at_call 11; refine (nameStart_any _ hb.1 hb.2 _).mono ?_; rintro e w' ⟨rfl, rfl⟩)
    go_loop [3] (fun i => ∃ k : Nat, 1 ≤ k ∧ k ≤ s.size ∧ i = .int .i64 k ∧ Hid (upTo s k = true)) (fun i => s.size - (intOf i).toNat)
    case atStart => exact ⟨1, by omega, by omega, rfl, upTo_one s⟩
    case round =>
      obtain ⟨k, hk1, hk2, rfl, hu⟩ := hrel
      by_cases hlt : k < s.size
      · have hbk := byte_le s[k]
        by_cases hn : nameI (s[k].toNat : Int) = true
        · go_wp2_with (go_at_call 12; refine (nameByte_any _ hbk.1 hbk.2 _).mono ?_; rintro e w' ⟨rfl, rfl⟩)
          go_round
          case rel => exact ⟨k + 1, by omega, by omega, by go_num, by unfold Hid; rw [upTo_succ s k hk1 hlt, hu.out, hn]; rfl⟩
          case measure => simp [intOf]; omega
        · have hn' : nameI (s[k].toNat : Int) = false := by simpa using hn
          clear hn
          have HB : Hid (upTo s s.size = false) := isName_bad s k hk1 hlt hn'
          go_wp2_with (go_at_call 12; refine (nameByte_any _ hbk.1 hbk.2 _).mono ?_; rintro e w' ⟨rfl, rfl⟩)
          go_ret
          exact ⟨ret_bool HB.out.symm, rfl⟩
      · have hks : k = s.size := by omega
        have HB : Hid (upTo s s.size = true) := by unfold Hid; rw [← hks]; exact hu.out
        clear hks
        go_wp2
        go_ret
        exact ⟨ret_bool HB.out.symm, rfl⟩
  · have hst' : startI (s[0].toNat : Int) = false := by simpa using hst
    rw [hst', Bool.false_and]
    clear hst
    go_enter Try.func6, Try.ntmps6
    go_wp2_with (go_at_call 11; refine (nameStart_any _ hb.1 hb.2 _).mono ?_; rintro e w' ⟨rfl, rfl⟩)
    go_ret
    exact ⟨rfl, rfl⟩

/-- IsName. -/
theorem isName_any (s : ByteArray) (hm : s.size ≤ 9223372036854775807) (w : World) :
    Calls Try.prog 6 #[.string s] w fun e w' => e = .returned (.bool (isName s.data.toList)) ∧ w' = w := by
  by_cases h : s.size = 0
  · exact isName_none s h w
  · exact isName_some s hm (by omega) w

set_option maxHeartbeats 400000 in
theorem shaped_none (s : ByteArray) (h : s.size = 0) (w : World) :
    Calls Try.prog 7 #[.string s] w fun e w' => e = .returned (.bool (isName s.data.toList)) ∧ w' = w := by
  rw [isName_empty s h]
  have he : ((s.size : Int) == 0) = true := by rw [beq_iff_eq]; omega
  clear h
  go_enter Try.func7, Try.ntmps7
  go_wp2
  go_ret
  exact ⟨rfl, rfl⟩

set_option maxHeartbeats 400000 in
theorem shaped_some (s : ByteArray) (hm : s.size ≤ 9223372036854775807) (h : 0 < s.size) (w : World) :
    Calls Try.prog 7 #[.string s] w fun e w' => e = .returned (.bool (isName s.data.toList)) ∧ w' = w := by
  rw [isName_at s h]
  have he : ((s.size : Int) == 0) = false := by rw [beq_eq_false_iff_ne]; omega
  have hb := byte_le s[0]
  by_cases hst : startI (s[0].toNat : Int) = true
  · rw [hst, Bool.true_and]
    go_enter Try.func7, Try.ntmps7
    go_wp2_with (go_at_call 9; refine (zzStart_any _ hb.1 hb.2 _).mono ?_; rintro e w' ⟨rfl, rfl⟩)
    go_loop [3, 4] (fun ok i => ∃ k : Nat, 1 ≤ k ∧ k ≤ s.size ∧ i = .int .i64 k ∧ ok = .bool (upTo s k)) (fun _ i => s.size - (intOf i).toNat)
    case atStart => exact ⟨1, by omega, by omega, rfl, by rw [upTo_one s]⟩
    case round =>
      obtain ⟨k, hk1, hk2, rfl, rfl⟩ := hrel
      by_cases hlt : k < s.size
      · have hbk := byte_le s[k]
        have HU : Hid (upTo s (k + 1) = (upTo s k && nameI (s[k].toNat : Int))) := upTo_succ s k hk1 hlt
        go_wp2_with (first | (go_at_call 9; refine (zzStart_any _ hbk.1 hbk.2 _).mono ?_; rintro e w' ⟨rfl, rfl⟩) | (go_at_call 10; refine (zzDigit_any _ hbk.1 hbk.2 _).mono ?_; rintro e w' ⟨rfl, rfl⟩))
        all_goals
          go_round
          case rel => exact ⟨k + 1, by omega, by omega, by go_num, by rw [HU.out]; simp_all [nameI]⟩
          case measure => simp [intOf]; omega
      · have hks : k = s.size := by omega
        subst hks
        go_wp2
        go_ret
        exact ⟨rfl, rfl⟩
  · have hst' : startI (s[0].toNat : Int) = false := by simpa using hst
    rw [hst', Bool.false_and]
    clear hst
    go_enter Try.func7, Try.ntmps7
    go_wp2_with (go_at_call 9; refine (zzStart_any _ hb.1 hb.2 _).mono ?_; rintro e w' ⟨rfl, rfl⟩)
    go_ret
    exact ⟨rfl, rfl⟩

/-- zzNameShaped. -/
theorem shaped_any (s : ByteArray) (hm : s.size ≤ 9223372036854775807) (w : World) :
    Calls Try.prog 7 #[.string s] w fun e w' => e = .returned (.bool (isName s.data.toList)) ∧ w' = w := by
  by_cases h : s.size = 0
  · exact shaped_none s h w
  · exact shaped_some s hm (by omega) w

/-- IsName's contract, its answer under a name. -/
theorem isName_named (s : ByteArray) (hm : s.size ≤ 9223372036854775807) (l : List UInt8) (hl : s.data.toList = l) (w : World) :
    Calls Try.prog 6 #[.string s] w fun e w' => ∃ b : Bool, e = .returned (.bool b) ∧ Hid (b = isName l) ∧ w' = w := by
  subst hl
  exact (isName_any s hm w).mono fun _ _ ⟨he, hw⟩ => ⟨_, he, rfl, hw⟩
theorem shaped_named (s : ByteArray) (hm : s.size ≤ 9223372036854775807) (l : List UInt8) (hl : s.data.toList = l) (w : World) :
    Calls Try.prog 7 #[.string s] w fun e w' => ∃ b : Bool, e = .returned (.bool b) ∧ Hid (b = isName l) ∧ w' = w := by
  subst hl
  exact (shaped_any s hm w).mono fun _ _ ⟨he, hw⟩ => ⟨_, he, rfl, hw⟩

theorem extract_toL (x : ByteArray) (a b : Nat) : (x.extract a b).data.toList = (x.data.toList.drop a).take (b - a) := by
  simp [ByteArray.data_extract]
theorem head_toL (s : ByteArray) (k : Nat) : (s.extract 0 k).data.toList = s.data.toList.take k := by
  rw [extract_toL]
  simp
theorem tail_toL (s : ByteArray) (k : Nat) : (s.extract k s.size).data.toList = s.data.toList.drop k := by
  rw [extract_toL, List.take_of_length_le]
  simp
theorem append_toL (a b : ByteArray) : (a ++ b).data.toList = a.data.toList ++ b.data.toList := by
  rw [ByteArray.data_append]
  simp
theorem under_toL (a : ByteArray) : (⟨#[95]⟩ ++ a : ByteArray).data.toList = 95 :: a.data.toList := by
  rw [append_toL]
  rfl
theorem head_size (s : ByteArray) (k : Nat) : (s.extract 0 k).size ≤ s.size := by
  rw [ByteArray.size_extract]
  omega
theorem tail_size (s : ByteArray) (k : Nat) : (s.extract k s.size).size ≤ s.size := by
  rw [ByteArray.size_extract]
  omega
theorem append_size (a b : ByteArray) : (a ++ b).size = a.size + b.size := ByteArray.size_append
end Go.Proofs.Qxb6626321a
