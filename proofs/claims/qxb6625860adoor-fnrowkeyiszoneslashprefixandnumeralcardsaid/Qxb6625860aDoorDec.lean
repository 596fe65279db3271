/-
  Seat b6625860aD: zzIsDecimalOfB1 answers true at the numeral of id.
-/
import Derived.Test.Qxb6625860aDoorWalks
namespace Go.Proofs.Qxb6625860aDoor
open Go.RowKit

set_option maxHeartbeats 400000 in
theorem dec_pos (n : Nat) (hn : n ≤ 9223372036854775807) (s : ByteArray) (hm : s.size ≤ 1048576) (hs : Hid (s.data.toList = Lib.decDigits n)) (w : World) :
    Calls Tryd.prog 7 #[.string s, .int .i64 n] w fun e w' => e = .returned (.bool true) ∧ w' = w := by
  have HZ : Hid (∃ k, k + 1 = s.size) := Plain.numeral_size s [] n hs.out
  go_enter Tryd.func7, Tryd.ntmps7
  go_wp2
  go_loop [5, 6] (fun q i => ∃ u k : Nat, k < s.size ∧ u ≤ n ∧ q = .int .i64 u ∧ i = .int .i64 ((k : Int) + 1) ∧ Hid (s.data.toList.take (k + 1) = [] ++ Lib.decDigits u)) (fun _ i => (intOf i).toNat)
  case atStart =>
    obtain ⟨k, hk⟩ := HZ.out
    exact ⟨n, k, by omega, Nat.le_refl _, rfl, by rw [← hk]; rfl, Plain.take_all s _ hs.out k hk⟩
  case round =>
    obtain ⟨u, k, hk, hu, rfl, rfl, hd⟩ := hrel
    have hdig : ((s[k].toNat : Int) != 48 + (u : Int) % 10) = false := by
      rw [bne_eq_false_iff_eq, (Plain.step s k u [] hk hd.out).1]
      omega
    by_cases h10 : u < 10
    · have hq : ((u : Int) / 10 == 0) = true := by rw [beq_iff_eq]; omega
      have hk0 : ((k : Int) == 0) = true := by
        have := (Plain.step_end s k u [] hk hd.out h10).1
        rw [beq_iff_eq]
        simpa using this
      go_wp2
      go_ret
      exact ⟨rfl, rfl⟩
    · have hq : ((u : Int) / 10 == 0) = false := by rw [beq_eq_false_iff_ne]; omega
      go_wp2
      go_round
      case rel =>
        obtain ⟨j, rfl, hj⟩ := Plain.step_on s k u [] hk hd.out h10
        exact ⟨u / 10, j, by omega, by omega, by go_num, by go_num, hj⟩
      case measure => simp [intOf]

set_option maxHeartbeats 400000 in
theorem dec_neg (n : Int) (hn0 : -9223372036854775808 ≤ n) (hn : n < 0) (s : ByteArray) (hm : s.size ≤ 1048576) (hs : Hid (s.data.toList = [45] ++ Lib.decDigits n.natAbs)) (w : World) :
    Calls Tryd.prog 7 #[.string s, .int .i64 n] w fun e w' => e = .returned (.bool true) ∧ w' = w := by
  have HZ : Hid (∃ k, k + 1 = s.size) := Plain.numeral_size s [45] n.natAbs hs.out
  go_enter Tryd.func7, Tryd.ntmps7
  go_wp2
  go_loop [5, 6] (fun q i => ∃ (a : Int) (u k : Nat), k < s.size ∧ -9223372036854775808 ≤ a ∧ a < 0 ∧ q = .int .i64 a ∧ i = .int .i64 ((k : Int) + 1) ∧ Hid (u = a.natAbs) ∧ Hid (s.data.toList.take (k + 1) = [45] ++ Lib.decDigits u)) (fun _ i => (intOf i).toNat)
  case atStart =>
    obtain ⟨k, hk⟩ := HZ.out
    exact ⟨n, n.natAbs, k, by omega, hn0, hn, rfl, by rw [← hk]; rfl, rfl, Plain.take_all s _ hs.out k hk⟩
  case round =>
    obtain ⟨a, u, k, hk, ha0, ha1, rfl, rfl, hu, hd⟩ := hrel
    have Hm : Hid (a.tmod 10 = -(((u % 10 : Nat)) : Int)) := Plain.tmod_neg ha1 hu.out
    have Hq : Hid (a.tdiv 10 = -(((u / 10 : Nat)) : Int)) := Plain.tdiv_neg ha1 hu.out
    have HD : Hid (s[k].toNat = 48 + u % 10) := (Plain.step s k u [45] hk hd.out).1
    have hm0 : -9 ≤ a.tmod 10 := by rw [Hm.out]; omega
    have hm1 : a.tmod 10 ≤ 0 := by rw [Hm.out]; omega
    by_cases h10 : u < 10
    · have hq : (a.tdiv 10 == 0) = true := by rw [beq_iff_eq, Hq.out]; omega
      obtain ⟨hk1, ht⟩ := Plain.step_end s k u [45] hk hd.out h10
      obtain rfl : k = 1 := hk1
      have h0 : 0 < s.size := by omega
      have hminus : ((s[0].toNat : Int) == 45) = true := by rw [beq_iff_eq, Plain.first s h0 ht]; rfl
      clear ht
      by_cases hz : a.tmod 10 < 0
      · have hdig : ((s[1].toNat : Int) != 48 + -a.tmod 10) = false := by rw [bne_eq_false_iff_eq, HD.out, Hm.out]; omega
        go_wp2
        go_ret
        exact ⟨rfl, rfl⟩
      · have hdig : ((s[1].toNat : Int) != 48 + a.tmod 10) = false := by rw [bne_eq_false_iff_eq, HD.out]; have := Hm.out; omega
        go_wp2
        go_ret
        exact ⟨rfl, rfl⟩
    · have hq : (a.tdiv 10 == 0) = false := by rw [beq_eq_false_iff_ne, Hq.out]; omega
      by_cases hz : a.tmod 10 < 0
      · have hdig : ((s[k].toNat : Int) != 48 + -a.tmod 10) = false := by rw [bne_eq_false_iff_eq, HD.out, Hm.out]; omega
        go_wp2
        go_round
        case rel =>
          obtain ⟨j, rfl, hj⟩ := Plain.step_on s k u [45] hk hd.out h10
          have e := Hq.out
          have hu' := hu.out
          exact ⟨a.tdiv 10, u / 10, j, by omega, by omega, by omega, rfl, by go_num, by rw [e]; unfold Hid; omega, hj⟩
        case measure => simp [intOf]
      · have hdig : ((s[k].toNat : Int) != 48 + a.tmod 10) = false := by rw [bne_eq_false_iff_eq, HD.out]; have := Hm.out; omega
        go_wp2
        go_round
        case rel =>
          obtain ⟨j, rfl, hj⟩ := Plain.step_on s k u [45] hk hd.out h10
          have e := Hq.out
          have hu' := hu.out
          exact ⟨a.tdiv 10, u / 10, j, by omega, by omega, by omega, rfl, by go_num, by rw [e]; unfold Hid; omega, hj⟩
        case measure => simp [intOf]

theorem dec_any (n : Int) (h0 : -9223372036854775808 ≤ n) (h1 : n ≤ 9223372036854775807) (s : ByteArray) (hm : s.size ≤ 1048576) (hs : s.data.toList = Lib.itoa n) (w : World) :
    Calls Tryd.prog 7 #[.string s, .int .i64 n] w fun e w' => e = .returned (.bool true) ∧ w' = w := by
  by_cases hn : n < 0
  · rw [Plain.itoa_minus hn] at hs
    exact dec_neg n h0 hn s hm hs w
  · rw [Plain.itoa_pos hn] at hs
    obtain ⟨k, rfl⟩ := Int.eq_ofNat_of_zero_le (Int.not_lt.1 hn)
    exact dec_pos k (by omega) s hm hs w

/-- RowKey's contract, its string under a name. -/
theorem rowKey_named (n : Int) (h0 : -9223372036854775808 ≤ n) (h1 : n ≤ 9223372036854775807) (z : ByteArray) (hs : z.size ≤ 1048576) (B : Nat) (w : World) (hB : B ≤ w.heap.size) (htab : Tab B w) :
    Calls Tryd.prog 6 #[.string z, .int .i64 n] w fun e w' => ∃ x : ByteArray, e = .returned (.string x) ∧ Hid (x.data.toList = Plain.key z.data.toList n) ∧ Below B w w' :=
  (rowKey n h0 h1 z hs B w hB htab).mono fun _ _ ⟨he, hb⟩ => ⟨_, he, by simp [Hid], hb⟩

set_option maxHeartbeats 400000 in
theorem num_in (z : ByteArray) (n : Int) (hs : z.size ≤ 1048576) (a0 : -9223372036854775808 ≤ n) (a1 : n ≤ 9223372036854775807) (w : World) (htab : Tab w.heap.size w) :
    Calls Tryd.prog 3 #[.string z, .int .i64 n] w fun e w' => e = .returned (.bool true) ∧ Below w.heap.size w w' := by
  go_enter Tryd.func3, Tryd.ntmps3
  go_wp2_with (go_at_call 5; go_in)
  refine (rowKey_named n a0 a1 ⟨#[]⟩ (by decide) w.heap.size w (Nat.le_refl _) htab).mono ?_
  rintro e w1 ⟨node, rfl, hn, hb1⟩
  go_wp2_with fail
  refine (rowKey_named n a0 a1 z hs w.heap.size w1 hb1.size (htab.on hb1)).mono ?_
  rintro e w2 ⟨key, rfl, hk, hb2⟩
  have hsz : 7 ≤ node.size ∧ node.size ≤ 28 := Plain.node_size n a0 a1 node hn.out
  obtain ⟨hs7, hs28⟩ := hsz
  have hpre : ((node.extract 0 7).toList == [115, 98, 116, 101, 115, 116, 47]) = true := Plain.node_pre n node hn.out
  have Hrest : Hid ((node.extract 7 node.size).data.toList = Lib.itoa n) := Plain.node_rest n node hn.out
  go_wp2_with fail
  refine (dec_any n a0 a1 (node.extract 7 node.size) (Plain.rest_size node hs28) Hrest.out w2).mono ?_
  rintro e w3 ⟨rfl, rfl⟩
  by_cases hz : z.toList.isEmpty = true
  · have hkn : (key.toList == node.toList) = true := Plain.key_empty z n key node hz hk.out hn.out
    go_wp2_with fail
    go_ret
    exact ⟨rfl, hb1.trans hb2⟩
  · have hz' : z.toList.isEmpty = false := by simpa using hz
    clear hz
    go_wp2_with fail
    go_ret
    exact ⟨ret_bool (Plain.key_zone z n key node hz' hk.out hn.out), hb1.trans hb2⟩

set_option maxHeartbeats 400000 in
theorem num_out (z : ByteArray) (n : Int) (m : z.size ≤ maxLen) (h : 1048576 < z.size) (w : World) :
    Calls Tryd.prog 3 #[.string z, .int .i64 n] w fun e w' => e = .returned (.bool true) ∧ Below w.heap.size w w' := by
  unfold maxLen at m
  go_enter Tryd.func3, Tryd.ntmps3
  go_wp2_with (go_at_call 5; go_in)
  go_ret
  exact ⟨rfl, Below.refl _ _⟩

/-- FnRowKeyIsZoneSlashPrefixAndNumeral returns true, whatever the input. -/
theorem num_walk (z : ByteArray) (n : Int) (m : z.size ≤ maxLen) (a0 : -9223372036854775808 ≤ n) (a1 : n ≤ 9223372036854775807) (w : World) (htab : Tab w.heap.size w) :
    Calls Tryd.prog 3 #[.string z, .int .i64 n] w fun e w' => e = .returned (.bool true) ∧ Below w.heap.size w w' := by
  by_cases h : 1048576 < z.size
  · exact num_out z n m h w
  · exact num_in z n (by omega) a0 a1 w htab
end Go.Proofs.Qxb6625860aDoor
