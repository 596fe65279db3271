/-
  PLAIN LAWS for seat b6625860aD: the row key as a list of bytes; its injectivity. No Go, no program.
-/
import Derived.Lib.ItoaNum
namespace Go.Proofs.Qxb6625860aDoor.Plain
open Go.Lib

/-- The numeral's value. -/
def val (l : List UInt8) : Nat := l.foldl (fun a c => a * 10 + (c.toNat - 48)) 0

theorem val_snoc (l : List UInt8) (c : UInt8) : val (l ++ [c]) = val l * 10 + (c.toNat - 48) := by
  simp [val, List.foldl_append]

theorem dig_toNat (k : Nat) (h : k < 10) : (UInt8.ofNat (48 + k)).toNat = 48 + k := by
  rw [UInt8.toNat_ofNat']
  exact Nat.mod_eq_of_lt (by omega)

theorem decDigits_small {u : Nat} (h : u < 10) : decDigits u = [UInt8.ofNat (48 + u)] := decDigits_one h
theorem decDigits_big {u : Nat} (h : ¬ u < 10) : decDigits u = decDigits (u / 10) ++ [UInt8.ofNat (48 + u % 10)] := by
  rw [decDigits, dif_neg h]

theorem val_decDigits (u : Nat) : val (decDigits u) = u := by
  induction u using Nat.strongRecOn with
  | _ u ih =>
    by_cases h : u < 10
    · rw [decDigits_small h]
      simp only [val, List.foldl_cons, List.foldl_nil, dig_toNat u h]
      omega
    · rw [decDigits_big h, val_snoc, ih (u / 10) (by omega), dig_toNat _ (by omega)]
      omega

theorem decDigits_range (u : Nat) : ∀ c ∈ decDigits u, 48 ≤ c.toNat ∧ c.toNat ≤ 57 := by
  induction u using Nat.strongRecOn with
  | _ u ih =>
    by_cases h : u < 10
    · rw [decDigits_small h]
      intro c hc
      rw [List.mem_singleton] at hc
      rw [hc, dig_toNat u h]
      omega
    · rw [decDigits_big h]
      intro c hc
      rcases List.mem_append.1 hc with hc | hc
      · exact ih (u / 10) (by omega) c hc
      · rw [List.mem_singleton] at hc
        rw [hc, dig_toNat _ (by omega)]
        omega

theorem decDigits_ne_nil (u : Nat) : decDigits u ≠ [] := by
  by_cases h : u < 10
  · rw [decDigits_small h]; simp
  · rw [decDigits_big h]; simp

theorem itoa_pos {n : Int} (h : ¬ n < 0) : itoa n = decDigits n.natAbs := by
  unfold itoa
  rw [if_neg h]
  congr 1
  omega
theorem itoa_minus {n : Int} (h : n < 0) : itoa n = 45 :: decDigits n.natAbs := by
  unfold itoa
  rw [if_pos h]

/-- No slash in a numeral. -/
theorem slash_not_itoa (n : Int) : (47 : UInt8) ∉ itoa n := by
  intro hm
  by_cases h : n < 0
  · rw [itoa_minus h] at hm
    rcases List.mem_cons.1 hm with e | e
    · exact absurd e (by decide)
    · have := (decDigits_range _ _ e).1
      simp at this
  · rw [itoa_pos h] at hm
    have := (decDigits_range _ _ hm).1
    simp at this

theorem decDigits_inj {u v : Nat} (h : decDigits u = decDigits v) : u = v := by
  rw [← val_decDigits u, h, val_decDigits]

theorem minus_not_digits (u v : Nat) : (45 : UInt8) :: decDigits u ≠ decDigits v := by
  intro h
  have hm : (45 : UInt8) ∈ decDigits v := by rw [← h]; simp
  have := (decDigits_range _ _ hm).1
  simp at this

theorem itoa_inj {m n : Int} (h : itoa m = itoa n) : m = n := by
  by_cases hm : m < 0 <;> by_cases hn : n < 0
  · rw [itoa_minus hm, itoa_minus hn] at h
    have := decDigits_inj (List.cons.inj h).2
    omega
  · rw [itoa_minus hm, itoa_pos hn] at h
    exact absurd h (minus_not_digits _ _)
  · rw [itoa_pos hm, itoa_minus hn] at h
    exact absurd h.symm (minus_not_digits _ _)
  · rw [itoa_pos hm, itoa_pos hn] at h
    have := decDigits_inj h
    omega

theorem decDigits_len (u : Nat) (h : u < 18446744073709551616) : (decDigits u).length ≤ 20 := by
  rw [decDigits_length]
  rcases Nat.eq_zero_or_pos u with rfl | h1
  · rw [nDigits_small (by omega)]; omega
  · have := numDigits_eq u h1 h
    split at this <;> omega

theorem itoa_len (n : Int) (h0 : -9223372036854775808 ≤ n) (h1 : n ≤ 9223372036854775807) : (itoa n).length ≤ 21 := by
  have := decDigits_len n.natAbs (by omega)
  by_cases h : n < 0
  · rw [itoa_minus h, List.length_cons]; omega
  · rw [itoa_pos h]; omega

/-- Two texts parted at their last slash. -/
theorem last_slash {a a' b b' : List UInt8} (h : a ++ 47 :: b = a' ++ 47 :: b') (hb : (47 : UInt8) ∉ b) (hb' : (47 : UInt8) ∉ b') : a = a' ∧ b = b' := by
  rcases List.append_eq_append_iff.1 h with ⟨c, h1, h2⟩ | ⟨c, h1, h2⟩
  · cases c with
    | nil => simp at h1 h2; exact ⟨h1.symm, h2⟩
    | cons x c =>
      simp only [List.cons_append, List.cons.injEq] at h2
      exact absurd (by rw [h2.2]; simp) hb
  · cases c with
    | nil => simp at h1 h2; exact ⟨h1, h2.symm⟩
    | cons x c =>
      simp only [List.cons_append, List.cons.injEq] at h2
      exact absurd (by rw [h2.2]; simp) hb'

/-- "sbtest/". -/
def pre : List UInt8 := [115, 98, 116, 101, 115, 116, 47]
/-- The row key. -/
def key (z : List UInt8) (n : Int) : List UInt8 := if z.isEmpty then pre ++ itoa n else z ++ [47] ++ pre ++ itoa n

def stem (z : List UInt8) : List UInt8 := if z.isEmpty then [115, 98, 116, 101, 115, 116] else z ++ [47, 115, 98, 116, 101, 115, 116]
theorem key_stem (z : List UInt8) (n : Int) : key z n = stem z ++ 47 :: itoa n := by
  unfold key stem pre
  split <;> simp

theorem stem_inj {y z : List UInt8} (h : stem y = stem z) : y = z := by
  unfold stem at h
  cases y with
  | nil =>
    cases z with
    | nil => rfl
    | cons c z =>
      have := congrArg List.length h
      simp at this
  | cons b y =>
    cases z with
    | nil =>
      have := congrArg List.length h
      simp at this
    | cons c z =>
      simp only [List.isEmpty_cons, Bool.false_eq_true, if_false] at h
      exact List.append_cancel_right h

theorem key_inj {y z : List UInt8} {m n : Int} (h : key y m = key z n) : y = z ∧ m = n := by
  rw [key_stem, key_stem] at h
  obtain ⟨h1, h2⟩ := last_slash h (slash_not_itoa m) (slash_not_itoa n)
  exact ⟨stem_inj h1, itoa_inj h2⟩

/-- The law, as Bool. -/
theorem key_eq (y z : List UInt8) (m n : Int) : (key y m == key z n) = (y == z && m == n) := by
  rw [Bool.eq_iff_iff]
  simp only [beq_iff_eq, Bool.and_eq_true]
  exact ⟨key_inj, fun ⟨h1, h2⟩ => by rw [h1, h2]⟩

/-- A numeral's last digit, and what stands ahead of it. -/
def ahead (u : Nat) : List UInt8 := if u < 10 then [] else decDigits (u / 10)
theorem decDigits_last (u : Nat) : decDigits u = ahead u ++ [UInt8.ofNat (48 + u % 10)] := by
  unfold ahead
  by_cases h : u < 10
  · rw [if_pos h, decDigits_small h, Nat.mod_eq_of_lt h]; rfl
  · rw [if_neg h, decDigits_big h]

/-- ONE STEP FROM THE RIGHT: the text up to k + 1 is p and then the numeral of u. -/
theorem step (s : ByteArray) (k u : Nat) (p : List UInt8) (hk : k < s.size) (h : s.data.toList.take (k + 1) = p ++ decDigits u) :
    s[k].toNat = 48 + u % 10 ∧ s.data.toList.take k = p ++ ahead u := by
  have hk' : k < s.data.toList.length := by simpa using hk
  rw [List.take_succ_eq_append_getElem hk', decDigits_last, ← List.append_assoc] at h
  obtain ⟨h1, h2⟩ := List.append_inj' h rfl
  refine ⟨?_, h1⟩
  have h3 : s.data.toList[k] = UInt8.ofNat (48 + u % 10) := (List.cons.inj h2).1
  have h4 : s[k] = s.data.toList[k] := rfl
  rw [h4, h3, dig_toNat _ (by omega)]

theorem step_end (s : ByteArray) (k u : Nat) (p : List UInt8) (hk : k < s.size) (h : s.data.toList.take (k + 1) = p ++ decDigits u) (hu : u < 10) :
    k = p.length ∧ s.data.toList.take k = p := by
  have h1 := (step s k u p hk h).2
  unfold ahead at h1
  rw [if_pos hu, List.append_nil] at h1
  refine ⟨?_, h1⟩
  rw [← h1, List.length_take]
  have : s.data.toList.length = s.size := by simp
  omega

theorem step_on (s : ByteArray) (k u : Nat) (p : List UInt8) (hk : k < s.size) (h : s.data.toList.take (k + 1) = p ++ decDigits u) (hu : ¬ u < 10) :
    ∃ j, k = j + 1 ∧ s.data.toList.take (j + 1) = p ++ decDigits (u / 10) := by
  have h1 := (step s k u p hk h).2
  unfold ahead at h1
  rw [if_neg hu] at h1
  cases k with
  | zero =>
    have := congrArg List.length h1
    have h2 := List.length_pos_iff.2 (decDigits_ne_nil (u / 10))
    simp at this
    omega
  | succ j => exact ⟨j, rfl, h1⟩

theorem take_all (s : ByteArray) (l : List UInt8) (h : s.data.toList = l) (k : Nat) (hk : k + 1 = s.size) : s.data.toList.take (k + 1) = l := by
  rw [hk, List.take_of_length_le (by simp), h]

theorem numeral_size (s : ByteArray) (p : List UInt8) (u : Nat) (h : s.data.toList = p ++ decDigits u) : ∃ k, k + 1 = s.size := by
  have h1 : s.size = (p ++ decDigits u).length := by rw [← h]; simp
  have h2 := List.length_pos_iff.2 (decDigits_ne_nil u)
  rw [List.length_append] at h1
  exact ⟨s.size - 1, by omega⟩

theorem tmod_neg {a : Int} {u : Nat} (ha : a < 0) (hu : u = a.natAbs) : a.tmod 10 = -(((u % 10 : Nat)) : Int) := by
  obtain rfl : a = -(u : Int) := by omega
  rw [Int.neg_tmod]
  rfl
theorem tdiv_neg {a : Int} {u : Nat} (ha : a < 0) (hu : u = a.natAbs) : a.tdiv 10 = -(((u / 10 : Nat)) : Int) := by
  obtain rfl : a = -(u : Int) := by omega
  rw [Int.neg_tdiv]
  rfl

theorem first (s : ByteArray) (h : 0 < s.size) (ht : s.data.toList.take 1 = [45]) : s[0].toNat = 45 := by
  have h' : 0 < s.data.toList.length := by simpa using h
  have h1 := List.take_succ_eq_append_getElem h'
  rw [List.take_zero, List.nil_append] at h1
  have h2 : s.data.toList[0] = 45 := (List.cons.inj (h1.symm.trans ht)).1
  have h3 : s[0] = s.data.toList[0] := rfl
  rw [h3, h2]
  rfl

/-- Strings by their bytes. -/
theorem ba_ext {x : ByteArray} {l : List UInt8} (h : x.data.toList = l) : x = ⟨l.toArray⟩ := by
  cases x with
  | mk d => subst h; simp

theorem append_toList (a b : ByteArray) : (a ++ b).data.toList = a.data.toList ++ b.data.toList := by
  rw [ByteArray.data_append]
  simp

/-! ### The key of a node alone -/
theorem toL (z : ByteArray) : z.toList = z.data.toList := ByteArray.toList_eq z

theorem extract_toL (x : ByteArray) (a b : Nat) : (x.extract a b).data.toList = (x.data.toList.drop a).take (b - a) := by
  simp [ByteArray.data_extract]

theorem key_nil (n : Int) : key [] n = pre ++ itoa n := rfl

theorem node_size (n : Int) (h0 : -9223372036854775808 ≤ n) (h1 : n ≤ 9223372036854775807) (x : ByteArray) (h : x.data.toList = key [] n) : 7 ≤ x.size ∧ x.size ≤ 28 := by
  have hl := itoa_len n h0 h1
  have h2 : x.size = (key [] n).length := by rw [← h]; simp
  rw [key_nil, List.length_append] at h2
  have h3 : pre.length = 7 := rfl
  omega

theorem node_pre (n : Int) (x : ByteArray) (h : x.data.toList = key [] n) : ((x.extract 0 7).toList == [115, 98, 116, 101, 115, 116, 47]) = true := by
  rw [toL, extract_toL, h, key_nil]
  rfl

theorem node_rest (n : Int) (x : ByteArray) (h : x.data.toList = key [] n) : (x.extract 7 x.size).data.toList = itoa n := by
  have h2 : x.size = (key [] n).length := by rw [← h]; simp
  rw [extract_toL, h, h2, key_nil]
  have h3 : (pre ++ itoa n).drop 7 = itoa n := rfl
  rw [h3, List.length_append, List.take_of_length_le]
  have h4 : pre.length = 7 := rfl
  omega

theorem rest_size (x : ByteArray) (h : x.size ≤ 28) : (x.extract 7 x.size).size ≤ 1048576 := by
  rw [ByteArray.size_extract]
  omega

theorem key_empty (z : ByteArray) (n : Int) (k x : ByteArray) (hz : z.toList.isEmpty = true) (hk : k.data.toList = key z.data.toList n) (h : x.data.toList = key [] n) : (k.toList == x.toList) = true := by
  rw [toL] at hz
  rw [toL, toL, hk, h, beq_iff_eq, List.isEmpty_iff.1 hz]

theorem key_zone (z : ByteArray) (n : Int) (k x : ByteArray) (hz : z.toList.isEmpty = false) (hk : k.data.toList = key z.data.toList n) (h : x.data.toList = key [] n) : (k.toList == (z ++ ⟨#[47]⟩ ++ x).toList) = true := by
  rw [toL] at hz
  rw [toL, toL, append_toList, append_toList, hk, h, beq_iff_eq, key_nil]
  unfold key
  rw [hz]
  simp

end Go.Proofs.Qxb6625860aDoor.Plain
