/-
  Seat b6625860aD: THE WALKS: RowKey (strconv.Itoa by the shelf's contract), FnRowKeyInjective.
-/
import Derived.Test.Qxb6625860aDoorRows
import Derived.Test.Qxb6625860aDoorPlain
import Derived.Test.Qxb6625860aDoorShelf
import Derived.Lib.AppendIntMem
import Derived.WalkKit
import Derived.WalkSpells
import Derived.WalkLawsBesides
namespace Go.Proofs.Qxb6625860aDoor
open Go.RowKit

/-- The name of the table that strconv.Itoa reads: the third variable that the rows list. -/
abbrev powName : String := (Rows.fnRowKeyInjectiveRow.laid.map (·.1)).getD 2 "none"

/-- The library's table, as the program's text lays it, whatever is done from block B on. -/
abbrev Tab (B : Nat) (w : World) : Prop := Lib.TabBelow Tryd.prog B w powName .u64 Lib.pow10Tab

/-- strconv.Itoa at this program: one application of the shelf's contract. -/
theorem itoa_calls (n : Int) (h0 : -9223372036854775808 ≤ n) (h1 : n ≤ 9223372036854775807) (w : World) (htab : Lib.TabIs Tryd.prog w powName .u64 Lib.pow10Tab) :
    Calls Tryd.prog 9 #[.int .i64 n] w fun e w' => e = .returned (.string ⟨(Lib.itoa n).toArray⟩) ∧ ∃ k os, w' = Sort.grow (w.drewN k) os := Any.strconv_Itoa Tryd.laysItoa n h0 h1 w htab

theorem ret_string {a b : ByteArray} (h : a = b) : Ending.returned (.string a) = .returned (.string b) := by rw [h]

set_option maxHeartbeats 400000 in
theorem rowKey_empty (n : Int) (h0 : -9223372036854775808 ≤ n) (h1 : n ≤ 9223372036854775807) (z : ByteArray) (hz : z.toList.isEmpty = true) (B : Nat) (w : World) (hB : B ≤ w.heap.size) (htab : Tab B w) :
    Calls Tryd.prog 6 #[.string z, .int .i64 n] w fun e w' => e = .returned (.string ⟨(Plain.pre ++ Lib.itoa n).toArray⟩) ∧ Below B w w' := by
  have hl := Plain.itoa_len n h0 h1
  go_enter Tryd.func6, Tryd.ntmps6
  go_wp2_with (go_at_call 9; refine (itoa_calls n h0 h1 _ htab.here).mono ?_; rintro e w' ⟨rfl, k, os, rfl⟩)
  go_ret
  exact ⟨ret_string (Plain.ba_ext (by rw [Plain.append_toList]; simp [Plain.pre])), Lib.below_grow B w hB k os⟩

set_option maxHeartbeats 400000 in
theorem rowKey_zone (n : Int) (h0 : -9223372036854775808 ≤ n) (h1 : n ≤ 9223372036854775807) (z : ByteArray) (hz : z.toList.isEmpty = false) (hs : z.size ≤ 1048576) (B : Nat) (w : World) (hB : B ≤ w.heap.size) (htab : Tab B w) :
    Calls Tryd.prog 6 #[.string z, .int .i64 n] w fun e w' => e = .returned (.string ⟨(z.data.toList ++ [47] ++ Plain.pre ++ Lib.itoa n).toArray⟩) ∧ Below B w w' := by
  have hl := Plain.itoa_len n h0 h1
  go_enter Tryd.func6, Tryd.ntmps6
  go_wp2_with (go_at_call 9; refine (itoa_calls n h0 h1 _ htab.here).mono ?_; rintro e w' ⟨rfl, k, os, rfl⟩)
  go_ret
  exact ⟨ret_string (Plain.ba_ext (by rw [Plain.append_toList, Plain.append_toList, Plain.append_toList]; simp [Plain.pre])), Lib.below_grow B w hB k os⟩

theorem toList_eq (z : ByteArray) : z.toList = z.data.toList := ByteArray.toList_eq z

theorem rowKey (n : Int) (h0 : -9223372036854775808 ≤ n) (h1 : n ≤ 9223372036854775807) (z : ByteArray) (hs : z.size ≤ 1048576) (B : Nat) (w : World) (hB : B ≤ w.heap.size) (htab : Tab B w) :
    Calls Tryd.prog 6 #[.string z, .int .i64 n] w fun e w' => e = .returned (.string ⟨(Plain.key z.data.toList n).toArray⟩) ∧ Below B w w' := by
  unfold Plain.key
  by_cases hz : z.data.toList.isEmpty = true
  · rw [if_pos hz]
    exact rowKey_empty n h0 h1 z (by rw [toList_eq]; exact hz) B w hB htab
  · rw [if_neg hz]
    exact rowKey_zone n h0 h1 z (by rw [toList_eq]; simpa using hz) hs B w hB htab

theorem ret_bool {b : Bool} (h : b = true) : Ending.returned (.bool b) = .returned (.bool true) := by rw [h]

theorem inj_same (z1 z2 : ByteArray) (n1 n2 : Int) (h : z1.toList = z2.toList) : ((Plain.key z1.data.toList n1 == Plain.key z2.data.toList n2) == (n1 == n2)) = true := by
  rw [toList_eq, toList_eq] at h
  rw [Plain.key_eq, h]
  simp

theorem inj_other (z1 z2 : ByteArray) (n1 n2 : Int) (h : ¬ z1.toList = z2.toList) : (!Plain.key z1.data.toList n1 == Plain.key z2.data.toList n2) = true := by
  rw [toList_eq, toList_eq] at h
  rw [Plain.key_eq, beq_eq_false_iff_ne.2 h]
  rfl

set_option maxHeartbeats 400000 in
theorem inj_in (z1 : ByteArray) (n1 : Int) (z2 : ByteArray) (n2 : Int) (hs1 : z1.size ≤ 524288) (hs2 : z2.size ≤ 524288)
    (a0 : -9223372036854775808 ≤ n1) (a1 : n1 ≤ 9223372036854775807) (b0 : -9223372036854775808 ≤ n2) (b1 : n2 ≤ 9223372036854775807) (w : World) (htab : Tab w.heap.size w) :
    Calls Tryd.prog 4 #[.string z1, .int .i64 n1, .string z2, .int .i64 n2] w fun e w' => e = .returned (.bool true) ∧ Below w.heap.size w w' := by
  go_enter Tryd.func4, Tryd.ntmps4
  go_wp2_with (go_at_call 8; go_in)
  refine (rowKey n1 a0 a1 z1 (by omega) w.heap.size w (Nat.le_refl _) htab).mono ?_
  rintro e w1 ⟨rfl, hb1⟩
  go_wp2_with fail
  refine (rowKey n2 b0 b1 z2 (by omega) w.heap.size w1 hb1.size (htab.on hb1)).mono ?_
  rintro e w2 ⟨rfl, hb2⟩
  go_wp2_with fail
  · go_ret
    exact ⟨ret_bool (inj_same z1 z2 n1 n2 ‹_›), hb1.trans hb2⟩
  · go_ret
    exact ⟨ret_bool (inj_other z1 z2 n1 n2 ‹_›), hb1.trans hb2⟩

set_option maxHeartbeats 400000 in
theorem inj_out (z1 : ByteArray) (n1 : Int) (z2 : ByteArray) (n2 : Int) (m1 : z1.size ≤ maxLen) (m2 : z2.size ≤ maxLen) (h : 524288 < z1.size ∨ 524288 < z2.size) (w : World) :
    Calls Tryd.prog 4 #[.string z1, .int .i64 n1, .string z2, .int .i64 n2] w fun e w' => e = .returned (.bool true) ∧ Below w.heap.size w w' := by
  unfold maxLen at m1 m2
  by_cases c1 : 1048576 < z1.size
  · clear h
    go_enter Tryd.func4, Tryd.ntmps4
    go_wp2_with (go_at_call 8; go_in)
    go_ret
    exact ⟨rfl, Below.refl _ _⟩
  by_cases c2 : 1048576 < z2.size
  · clear h
    go_enter Tryd.func4, Tryd.ntmps4
    go_wp2_with (go_at_call 8; go_in)
    go_ret
    exact ⟨rfl, Below.refl _ _⟩
  by_cases c3 : 1048576 < z1.size + z2.size
  · clear h
    go_enter Tryd.func4, Tryd.ntmps4
    go_wp2_with (go_at_call 8; go_in)
    go_ret
    exact ⟨rfl, Below.refl _ _⟩
  by_cases c4 : 524288 < z1.size
  · clear h
    go_enter Tryd.func4, Tryd.ntmps4
    go_wp2_with (go_at_call 8; go_in)
    go_ret
    exact ⟨rfl, Below.refl _ _⟩
  have c5 : 524288 < z2.size := by omega
  clear h
  go_enter Tryd.func4, Tryd.ntmps4
  go_wp2_with (go_at_call 8; go_in)
  go_ret
  exact ⟨rfl, Below.refl _ _⟩

/-- FnRowKeyInjective returns true, whatever the input. -/
theorem inj_walk (z1 : ByteArray) (n1 : Int) (z2 : ByteArray) (n2 : Int) (m1 : z1.size ≤ maxLen) (m2 : z2.size ≤ maxLen)
    (a0 : -9223372036854775808 ≤ n1) (a1 : n1 ≤ 9223372036854775807) (b0 : -9223372036854775808 ≤ n2) (b1 : n2 ≤ 9223372036854775807) (w : World) (htab : Tab w.heap.size w) :
    Calls Tryd.prog 4 #[.string z1, .int .i64 n1, .string z2, .int .i64 n2] w fun e w' => e = .returned (.bool true) ∧ Below w.heap.size w w' := by
  by_cases h : 524288 < z1.size ∨ 524288 < z2.size
  · exact inj_out z1 n1 z2 n2 m1 m2 h w
  · exact inj_in z1 n1 z2 n2 (by omega) (by omega) a0 a1 b0 b1 w htab

end Go.Proofs.Qxb6625860aDoor
