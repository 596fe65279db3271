/-
  Seat b6626321a: THE WALK of FnIsNameUnderOneInsertedByte.
-/
import Derived.Test.Qxb6626321aWalks
import Derived.Deep.QuietTactic
import Derived.BigQuiet
namespace Go.Proofs.Qxb6626321a
open Go.RowKit Plain

/-- 'string([]byte{b})' behind the slice's own block. -/
theorem one_byte (b : UInt8) (w : World) :
    (convert 25 9 (.slice (some ⟨w.heap.size, 0, none⟩) 1 1)).run Try.prog (w.alloc (.cells #[.int .u8 (b.toNat : Int)] 5)) = .ok (.string ⟨#[b]⟩) (w.alloc (.cells #[.int .u8 (b.toNat : Int)] 5)) :=
  run_convert_bytes_back (P := Try.prog) (w.alloc (.cells #[.int .u8 (b.toNat : Int)] 5)) 25 9 5 ⟨w.heap.size, 0, none⟩ 1 [b] Try.underlying25 Try.underlying5 Try.underlying9 (fun j hj => by
    have : j = 0 := by simpa using hj
    subst this
    simp [Addr.add])

theorem alone_calls (b : UInt8) (w : World) : Calls Try.prog 6 #[.string ⟨#[b]⟩] w fun e w' => e = .returned (.bool (startI (b.toNat : Int))) ∧ w' = w := by
  rw [← one b]
  exact isName_any ⟨#[b]⟩ (by show 1 ≤ _; omega) w
theorem behind_calls (b : UInt8) (w : World) : Calls Try.prog 6 #[.string (⟨#[95]⟩ ++ ⟨#[b]⟩)] w fun e w' => e = .returned (.bool (startI (b.toNat : Int) || digI (b.toNat : Int))) ∧ w' = w := by
  have h : (startI (b.toNat : Int) || digI (b.toNat : Int)) = isName (⟨#[95]⟩ ++ ⟨#[b]⟩ : ByteArray).data.toList := by
    rw [under_toL]
    exact (behind b).symm
  rw [h]
  exact isName_any _ (by rw [append_size]; show 1 + 1 ≤ _; omega) w

theorem text_toL (s : ByteArray) (i : Nat) (b : UInt8) : (s.extract 0 i ++ ⟨#[b]⟩ ++ s.extract i s.size).data.toList = s.data.toList.take i ++ [b] ++ s.data.toList.drop i := by
  rw [append_toL, append_toL, head_toL, tail_toL]
theorem text_size (s : ByteArray) (i : Nat) (b : UInt8) (hs : s.size ≤ 1048576) : (s.extract 0 i ++ ⟨#[b]⟩ ++ s.extract i s.size).size ≤ 9223372036854775807 := by
  have h1 := head_size s i
  have h2 := tail_size s i
  rw [append_size, append_size, show (⟨#[b]⟩ : ByteArray).size = 1 from rfl]
  omega

theorem grown_of (w : World) (b : UInt8) (n : Nat) : Grown w ((w.alloc (.cells #[.int .u8 (b.toNat : Int)] 5)).drewN n) :=
  (Grown.refl w).alloc _ _

set_option maxHeartbeats 1000000 in
theorem insert_zero (s : ByteArray) (i : Nat) (b : UInt8) (hs : s.size ≤ 1048576) (hi : i ≤ s.size) (hi0 : ((i : Int) == 0) = true) (w : World) :
    Calls Try.prog 4 #[.string s, .int .i64 i, .int .u8 (b.toNat : Int)] w fun e w' => e = .returned (.bool true) ∧ Grown w w' := by
  have hh := head_size s i
  have ht := tail_size s i
  obtain ⟨hb0, hb1⟩ := byte_le b
  have hone := one_byte b w
  go_enter Try.func4, Try.ntmps4
  go_wp2_with (go_at_call 8; go_in)
  clear hone
  go_quiet (fail)
  go_wp2_with fail
  refine (isName_named _ (text_size s i b hs) _ (text_toL s i b) _).mono ?_
  rintro e w1 ⟨got, rfl, hgot, rfl⟩
  have hgot' : Hid (got = (startI (b.toNat : Int) && isName (95 :: s.data.toList))) := by
    have h0 : i = 0 := by simpa using hi0
    unfold Hid
    rw [hgot.out, h0, ← one b]
    exact insert_head s.data.toList b
  clear hgot
  cases hst : startI (b.toNat : Int)
  · have hg : got = false := by rw [hgot'.out, hst]; rfl
    clear hgot'
    subst hg
    cases hdg : digI (b.toNat : Int)
    · go_wp2_with fail
      refine (alone_calls b _).mono ?_
      rintro e w1 ⟨rfl, rfl⟩
      go_wp2_with fail
      refine (behind_calls b _).mono ?_
      rintro e w1 ⟨rfl, rfl⟩
      go_wp2_with (first | (go_at_call 9; refine (zzStart_any _ hb0 hb1 _).mono ?_; rintro e w' ⟨rfl, rfl⟩) | (go_at_call 10; refine (zzDigit_any _ hb0 hb1 _).mono ?_; rintro e w' ⟨rfl, rfl⟩))
      go_ret
      exact ⟨ret_bool (by simp), grown_of w b _⟩
    · go_wp2_with fail
      refine (alone_calls b _).mono ?_
      rintro e w1 ⟨rfl, rfl⟩
      go_wp2_with fail
      refine (behind_calls b _).mono ?_
      rintro e w1 ⟨rfl, rfl⟩
      go_wp2_with (first | (go_at_call 9; refine (zzStart_any _ hb0 hb1 _).mono ?_; rintro e w' ⟨rfl, rfl⟩) | (go_at_call 10; refine (zzDigit_any _ hb0 hb1 _).mono ?_; rintro e w' ⟨rfl, rfl⟩))
      go_ret
      exact ⟨ret_bool (by simp), grown_of w b _⟩
  · cases hdg : digI (b.toNat : Int)
    · go_wp2_with fail
      refine (alone_calls b _).mono ?_
      rintro e w1 ⟨rfl, rfl⟩
      go_wp2_with fail
      refine (behind_calls b _).mono ?_
      rintro e w1 ⟨rfl, rfl⟩
      go_wp2_with fail
      refine (isName_named _ ?hsz (95 :: s.data.toList) ?hl _).mono ?_
      case hsz => rw [append_size, show (⟨#[95]⟩ : ByteArray).size = 1 from rfl]; omega
      case hl => rw [under_toL]
      rintro e w1 ⟨tail, rfl, htail, rfl⟩
      have hg : got = tail := by rw [hgot'.out, htail.out, hst]; rfl
      clear hgot' htail
      subst hg
      go_wp2_with (first | (go_at_call 9; refine (zzStart_any _ hb0 hb1 _).mono ?_; rintro e w' ⟨rfl, rfl⟩) | (go_at_call 10; refine (zzDigit_any _ hb0 hb1 _).mono ?_; rintro e w' ⟨rfl, rfl⟩))
      go_ret
      exact ⟨ret_bool (by simp), grown_of w b _⟩
    · go_wp2_with fail
      refine (alone_calls b _).mono ?_
      rintro e w1 ⟨rfl, rfl⟩
      go_wp2_with fail
      refine (behind_calls b _).mono ?_
      rintro e w1 ⟨rfl, rfl⟩
      go_wp2_with fail
      refine (isName_named _ ?hsz (95 :: s.data.toList) ?hl _).mono ?_
      case hsz => rw [append_size, show (⟨#[95]⟩ : ByteArray).size = 1 from rfl]; omega
      case hl => rw [under_toL]
      rintro e w1 ⟨tail, rfl, htail, rfl⟩
      have hg : got = tail := by rw [hgot'.out, htail.out, hst]; rfl
      clear hgot' htail
      subst hg
      go_wp2_with (first | (go_at_call 9; refine (zzStart_any _ hb0 hb1 _).mono ?_; rintro e w' ⟨rfl, rfl⟩) | (go_at_call 10; refine (zzDigit_any _ hb0 hb1 _).mono ?_; rintro e w' ⟨rfl, rfl⟩))
      go_ret
      exact ⟨ret_bool (by simp), grown_of w b _⟩

set_option maxHeartbeats 1000000 in
theorem insert_pos (s : ByteArray) (i : Nat) (b : UInt8) (hs : s.size ≤ 1048576) (hi : i ≤ s.size) (hi1 : 1 ≤ i) (hi0 : ((i : Int) == 0) = false) (w : World) :
    Calls Try.prog 4 #[.string s, .int .i64 i, .int .u8 (b.toNat : Int)] w fun e w' => e = .returned (.bool true) ∧ Grown w w' := by
  have hh := head_size s i
  have ht := tail_size s i
  obtain ⟨hb0, hb1⟩ := byte_le b
  have hone := one_byte b w
  go_enter Try.func4, Try.ntmps4
  go_wp2_with (go_at_call 8; go_in)
  clear hone
  go_quiet (fail)
  go_wp2_with fail
  refine (isName_named _ (text_size s i b hs) _ (text_toL s i b) _).mono ?_
  rintro e w1 ⟨got, rfl, hgot, rfl⟩
  have hgot' : Hid (got = (isName s.data.toList && (startI (b.toNat : Int) || digI (b.toNat : Int)))) := by
    unfold Hid
    rw [hgot.out, insert_on s.data.toList i b hi1 (by simpa using hi), behind]
    rfl
  clear hgot
  cases hst : startI (b.toNat : Int)
  · cases hdg : digI (b.toNat : Int)
    · go_wp2_with fail
      refine (alone_calls b _).mono ?_
      rintro e w1 ⟨rfl, rfl⟩
      go_wp2_with fail
      refine (behind_calls b _).mono ?_
      rintro e w1 ⟨rfl, rfl⟩
      go_wp2_with fail
      refine (isName_named s (by omega) _ rfl _).mono ?_
      rintro e w1 ⟨whole, rfl, hwhole, rfl⟩
      obtain rfl : got = (whole && (startI (b.toNat : Int) || digI (b.toNat : Int))) := by rw [hgot'.out, hwhole.out]
      clear hgot' hwhole
      cases whole
      · go_wp2_with (first | (go_at_call 9; refine (zzStart_any _ hb0 hb1 _).mono ?_; rintro e w' ⟨rfl, rfl⟩) | (go_at_call 10; refine (zzDigit_any _ hb0 hb1 _).mono ?_; rintro e w' ⟨rfl, rfl⟩))
        go_ret
        exact ⟨ret_bool (by simp), grown_of w b _⟩
      · go_wp2_with (first | (go_at_call 9; refine (zzStart_any _ hb0 hb1 _).mono ?_; rintro e w' ⟨rfl, rfl⟩) | (go_at_call 10; refine (zzDigit_any _ hb0 hb1 _).mono ?_; rintro e w' ⟨rfl, rfl⟩))
        go_ret
        exact ⟨ret_bool (by simp), grown_of w b _⟩
    · go_wp2_with fail
      refine (alone_calls b _).mono ?_
      rintro e w1 ⟨rfl, rfl⟩
      go_wp2_with fail
      refine (behind_calls b _).mono ?_
      rintro e w1 ⟨rfl, rfl⟩
      go_wp2_with fail
      refine (isName_named s (by omega) _ rfl _).mono ?_
      rintro e w1 ⟨whole, rfl, hwhole, rfl⟩
      obtain rfl : got = (whole && (startI (b.toNat : Int) || digI (b.toNat : Int))) := by rw [hgot'.out, hwhole.out]
      clear hgot' hwhole
      cases whole
      · go_wp2_with (first | (go_at_call 9; refine (zzStart_any _ hb0 hb1 _).mono ?_; rintro e w' ⟨rfl, rfl⟩) | (go_at_call 10; refine (zzDigit_any _ hb0 hb1 _).mono ?_; rintro e w' ⟨rfl, rfl⟩))
        go_ret
        exact ⟨ret_bool (by simp), grown_of w b _⟩
      · go_wp2_with (first | (go_at_call 9; refine (zzStart_any _ hb0 hb1 _).mono ?_; rintro e w' ⟨rfl, rfl⟩) | (go_at_call 10; refine (zzDigit_any _ hb0 hb1 _).mono ?_; rintro e w' ⟨rfl, rfl⟩))
        go_ret
        exact ⟨ret_bool (by simp), grown_of w b _⟩
  · cases hdg : digI (b.toNat : Int)
    · go_wp2_with fail
      refine (alone_calls b _).mono ?_
      rintro e w1 ⟨rfl, rfl⟩
      go_wp2_with fail
      refine (behind_calls b _).mono ?_
      rintro e w1 ⟨rfl, rfl⟩
      go_wp2_with fail
      refine (isName_named s (by omega) _ rfl _).mono ?_
      rintro e w1 ⟨whole, rfl, hwhole, rfl⟩
      obtain rfl : got = (whole && (startI (b.toNat : Int) || digI (b.toNat : Int))) := by rw [hgot'.out, hwhole.out]
      clear hgot' hwhole
      cases whole
      · go_wp2_with (first | (go_at_call 9; refine (zzStart_any _ hb0 hb1 _).mono ?_; rintro e w' ⟨rfl, rfl⟩) | (go_at_call 10; refine (zzDigit_any _ hb0 hb1 _).mono ?_; rintro e w' ⟨rfl, rfl⟩))
        go_ret
        exact ⟨ret_bool (by simp), grown_of w b _⟩
      · go_wp2_with (first | (go_at_call 9; refine (zzStart_any _ hb0 hb1 _).mono ?_; rintro e w' ⟨rfl, rfl⟩) | (go_at_call 10; refine (zzDigit_any _ hb0 hb1 _).mono ?_; rintro e w' ⟨rfl, rfl⟩))
        go_ret
        exact ⟨ret_bool (by simp), grown_of w b _⟩
    · go_wp2_with fail
      refine (alone_calls b _).mono ?_
      rintro e w1 ⟨rfl, rfl⟩
      go_wp2_with fail
      refine (behind_calls b _).mono ?_
      rintro e w1 ⟨rfl, rfl⟩
      go_wp2_with fail
      refine (isName_named s (by omega) _ rfl _).mono ?_
      rintro e w1 ⟨whole, rfl, hwhole, rfl⟩
      obtain rfl : got = (whole && (startI (b.toNat : Int) || digI (b.toNat : Int))) := by rw [hgot'.out, hwhole.out]
      clear hgot' hwhole
      cases whole
      · go_wp2_with (first | (go_at_call 9; refine (zzStart_any _ hb0 hb1 _).mono ?_; rintro e w' ⟨rfl, rfl⟩) | (go_at_call 10; refine (zzDigit_any _ hb0 hb1 _).mono ?_; rintro e w' ⟨rfl, rfl⟩))
        go_ret
        exact ⟨ret_bool (by simp), grown_of w b _⟩
      · go_wp2_with (first | (go_at_call 9; refine (zzStart_any _ hb0 hb1 _).mono ?_; rintro e w' ⟨rfl, rfl⟩) | (go_at_call 10; refine (zzDigit_any _ hb0 hb1 _).mono ?_; rintro e w' ⟨rfl, rfl⟩))
        go_ret
        exact ⟨ret_bool (by simp), grown_of w b _⟩

set_option maxHeartbeats 400000 in
theorem insert_out (s : ByteArray) (i n : Int) (hm : s.size ≤ maxLen) (h : 1048576 < s.size ∨ i < 0 ∨ (s.size : Int) < i) (w : World) :
    Calls Try.prog 4 #[.string s, .int .i64 i, .int .u8 n] w fun e w' => e = .returned (.bool true) ∧ Grown w w' := by
  unfold maxLen at hm
  by_cases c1 : 1048576 < s.size
  · clear h
    go_enter Try.func4, Try.ntmps4
    go_wp2_with (go_at_call 8; go_in)
    go_ret
    exact ⟨rfl, Grown.refl _⟩
  by_cases c2 : i < 0
  · clear h
    go_enter Try.func4, Try.ntmps4
    go_wp2_with (go_at_call 8; go_in)
    go_ret
    exact ⟨rfl, Grown.refl _⟩
  have c3 : (s.size : Int) < i := by omega
  clear h
  go_enter Try.func4, Try.ntmps4
  go_wp2_with (go_at_call 8; go_in)
  go_ret
  exact ⟨rfl, Grown.refl _⟩

/-- FnIsNameUnderOneInsertedByte returns true, whatever the input. -/
theorem insert_walk (s : ByteArray) (i n : Int) (hm : s.size ≤ maxLen) (hn0 : 0 ≤ n) (hn1 : n ≤ 255) (w : World) :
    Calls Try.prog 4 #[.string s, .int .i64 i, .int .u8 n] w fun e w' => e = .returned (.bool true) ∧ Grown w w' := by
  by_cases h : 1048576 < s.size ∨ i < 0 ∨ (s.size : Int) < i
  · exact insert_out s i n hm h w
  · obtain ⟨j, rfl⟩ := Int.eq_ofNat_of_zero_le (show 0 ≤ i by omega)
    have hb : n = ((UInt8.ofNat n.toNat).toNat : Int) := by
      rw [UInt8.toNat_ofNat', Nat.mod_eq_of_lt (by omega)]
      omega
    rw [hb]
    by_cases hj : j = 0
    · exact insert_zero s j _ (by omega) (by omega) (by rw [beq_iff_eq]; omega) w
    · exact insert_pos s j _ (by omega) (by omega) (by omega) (by rw [beq_eq_false_iff_ne]; omega) w
end Go.Proofs.Qxb6626321a
