/-
  Seat b6626321a: PLAIN LAWS: names as lists of bytes. No program.
-/
import Derived.Laws.BitsAllLaws
namespace Go.Proofs.Qxb6626321a.Plain

/-- An underscore or an ASCII letter. -/
def startI (n : Int) : Bool := n == 95 || (decide (97 ≤ n) && decide (n ≤ 122)) || (decide (65 ≤ n) && decide (n ≤ 90))
/-- An ASCII digit. -/
def digI (n : Int) : Bool := decide (48 ≤ n) && decide (n ≤ 57)
def nameI (n : Int) : Bool := startI n || digI n
/-- Every byte may stand in a name. -/
def allName (l : List UInt8) : Bool := l.all fun c => nameI (c.toNat : Int)
/-- A name. -/
def isName : List UInt8 → Bool
  | [] => false
  | c :: r => startI (c.toNat : Int) && allName r

theorem start_fold_fin : ∀ n : Fin 256, decide ((bits .or .u8 (n.val : Int) 32 - 97) % 256 < 26) = ((decide (97 ≤ (n.val : Int)) && decide ((n.val : Int) ≤ 122)) || (decide (65 ≤ (n.val : Int)) && decide ((n.val : Int) ≤ 90))) := by decide +kernel
theorem start_fold (n : Int) (h0 : 0 ≤ n) (h1 : n ≤ 255) (h : (n == 95) = false) : decide ((bits .or .u8 n 32 - 97) % 256 < 26) = startI n := by
  obtain ⟨k, rfl⟩ := Int.eq_ofNat_of_zero_le h0
  have := start_fold_fin ⟨k, by omega⟩
  simp only at this
  rw [this]
  unfold startI
  rw [h, Bool.false_or]
theorem dig_fold (n : Int) (h0 : 0 ≤ n) (h1 : n ≤ 255) : decide ((n - 48) % 256 < 10) = digI n := by
  unfold digI
  rw [Bool.eq_iff_iff]
  simp only [decide_eq_true_eq, Bool.and_eq_true]
  omega

theorem allName_append (a b : List UInt8) : allName (a ++ b) = (allName a && allName b) := List.all_append
theorem isName_under (r : List UInt8) : isName (95 :: r) = allName r := by
  show (startI ((95 : UInt8).toNat : Int) && allName r) = allName r
  rw [show startI ((95 : UInt8).toNat : Int) = true from by decide]
  rfl
theorem isName_append (a b : List UInt8) (h : a ≠ []) : isName (a ++ b) = (isName a && allName b) := by
  cases a with
  | nil => exact absurd rfl h
  | cons c r =>
    show (startI (c.toNat : Int) && allName (r ++ b)) = (startI (c.toNat : Int) && allName r && allName b)
    rw [allName_append, Bool.and_assoc]

theorem take_ne (l : List UInt8) (k : Nat) (h1 : 1 ≤ k) (h2 : k ≤ l.length) : l.take k ≠ [] := by
  intro h
  have := congrArg List.length h
  rw [List.length_take, List.length_nil] at this
  omega

/-- A name splits at any cut. -/
theorem split (l : List UInt8) (k : Nat) (h1 : 1 ≤ k) (h2 : k ≤ l.length) : isName l = (isName (l.take k) && isName (95 :: l.drop k)) := by
  rw [isName_under, ← isName_append _ _ (take_ne l k h1 h2), List.take_append_drop]

theorem one (b : UInt8) : isName [b] = startI (b.toNat : Int) := by simp [isName, allName]
theorem behind (b : UInt8) : isName [95, b] = nameI (b.toNat : Int) := by
  rw [isName_under]
  simp [allName]

/-- One inserted byte. -/
theorem insert_head (l : List UInt8) (b : UInt8) : isName (b :: l) = (isName [b] && isName (95 :: l)) := by
  rw [isName_under, one]
  rfl
theorem insert_on (l : List UInt8) (i : Nat) (b : UInt8) (h1 : 1 ≤ i) (h2 : i ≤ l.length) : isName (l.take i ++ [b] ++ l.drop i) = (isName l && isName [95, b]) := by
  have hne : l.take i ≠ [] := take_ne l i h1 h2
  rw [List.append_assoc, isName_append _ _ hne, allName_append, behind]
  have : isName l = (isName (l.take i) && allName (l.drop i)) := by rw [← isName_append _ _ hne, List.take_append_drop]
  rw [this]
  have e : allName [b] = nameI (b.toNat : Int) := by simp [allName]
  rw [e]
  cases isName (l.take i) <;> cases allName (l.drop i) <;> cases nameI (b.toNat : Int) <;> rfl

/-! ### A loop over a string -/
theorem at_data (s : ByteArray) (k : Nat) (h : k < s.size) : s.data.toList[k]'(by simpa using h) = s[k] := rfl

/-- The bytes from the second up to k. -/
def upTo (s : ByteArray) (k : Nat) : Bool := allName ((s.data.toList.take k).drop 1)
theorem upTo_one (s : ByteArray) : upTo s 1 = true := by
  unfold upTo
  rw [List.drop_eq_nil_of_le (by simp; omega)]
  rfl
theorem upTo_succ (s : ByteArray) (k : Nat) (h1 : 1 ≤ k) (h : k < s.size) : upTo s (k + 1) = (upTo s k && nameI (s[k].toNat : Int)) := by
  have h' : k < s.data.toList.length := by simpa using h
  unfold upTo
  rw [List.take_succ_eq_append_getElem h', List.drop_append_of_le_length (by simp; omega), allName_append]
  rw [at_data s k h]
  congr 1
  simp [allName]
theorem isName_empty (s : ByteArray) (h : s.size = 0) : isName s.data.toList = false := by
  have : s.data.toList = [] := List.eq_nil_of_length_eq_zero (by simpa using h)
  rw [this]
  rfl
theorem isName_at (s : ByteArray) (h : 0 < s.size) : isName s.data.toList = (startI (s[0].toNat : Int) && upTo s s.size) := by
  unfold upTo
  rw [List.take_of_length_le (by simp)]
  have h0 : s.data.toList[0]? = some s[0] := by
    rw [List.getElem?_eq_getElem (by simpa using h)]
    rfl
  cases hl : s.data.toList with
  | nil => rw [hl] at h0; simp at h0
  | cons c r =>
    rw [hl] at h0
    simp at h0
    subst h0
    rfl
theorem isName_bad (s : ByteArray) (k : Nat) (h1 : 1 ≤ k) (h : k < s.size) (hb : nameI (s[k].toNat : Int) = false) : upTo s s.size = false := by
  have h' : k < s.data.toList.length := by simpa using h
  unfold upTo
  rw [List.take_of_length_le (by simp)]
  unfold allName
  rw [List.all_eq_false]
  refine ⟨s.data.toList[k], ?_, ?_⟩
  · have : s.data.toList[k] = (s.data.toList.drop 1)[k - 1]'(by simp; omega) := by
      rw [List.getElem_drop]
      congr 1
      omega
    rw [this]
    exact List.getElem_mem _
  · rw [at_data s k h, hb]
    simp
end Go.Proofs.Qxb6626321a.Plain
