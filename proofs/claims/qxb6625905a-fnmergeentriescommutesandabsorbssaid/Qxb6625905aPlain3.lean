/-
  Seat b6625905a: PLAIN LAWS, THIRD PART: the two passes of mergeEntries, step by step.
-/
import Derived.Test.Qxb6625905aPlain2
namespace Go.Proofs.Qxb6625905a.Plain
set_option linter.unusedSectionVars false
section
variable {α : Type} [DecidableEq α] {lt : α → α → Bool}

theorem key_at {A : List (α × Int)} {i : Nat} (h : i < A.length) : (keys A)[i]'(by simpa [keys] using h) = A[i].1 := by simp [keys]
theorem srt_key {A : List (α × Int)} (h : Srt lt (keys A)) {i j : Nat} (hi : i < A.length) (hj : j < A.length) (hij : i < j) : lt A[i].1 A[j].1 = true := by
  rw [← key_at hi, ← key_at hj]
  exact srt_at h _ _ hij

/-! ### The first pass -/
/-- Of A's first i keys each is below every key of B from t on; of the others each is above B's first t. -/
def Inv (lt : α → α → Bool) (A B : List (α × Int)) (i t : Nat) : Prop :=
  (∀ x (hx : x < A.length) y (hy : y < B.length), x < i → t ≤ y → lt A[x].1 B[y].1 = true) ∧
  (∀ x (hx : x < A.length) y (hy : y < B.length), i ≤ x → y < t → lt B[y].1 A[x].1 = true)

theorem inv_zero (A B : List (α × Int)) : Inv lt A B 0 0 := ⟨fun _ _ _ _ h _ => absurd h (by omega), fun _ _ _ _ _ h => absurd h (by omega)⟩
theorem inv_skip (O : LO lt) {A B : List (α × Int)} {i t : Nat} (hB : Srt lt (keys B)) (h : Inv lt A B i t) (hi : i < A.length) (ht : t < B.length) (hl : lt A[i].1 B[t].1 = true) : Inv lt A B (i + 1) t := by
  refine ⟨fun x hx y hy hxi hty => ?_, fun x hx y hy hxi hyt => h.2 x hx y hy (by omega) hyt⟩
  by_cases e : x = i
  · subst e
    by_cases e2 : y = t
    · subst e2; exact hl
    · exact O.trans _ _ _ hl (srt_key hB ht hy (by omega))
  · exact h.1 x hx y hy (by omega) hty
theorem inv_hit {A B : List (α × Int)} {i t : Nat} (hA : Srt lt (keys A)) (hB : Srt lt (keys B)) (h : Inv lt A B i t) (hi : i < A.length) (ht : t < B.length) (he : A[i].1 = B[t].1) : Inv lt A B (i + 1) (t + 1) := by
  refine ⟨fun x hx y hy hxi hty => ?_, fun x hx y hy hxi hyt => ?_⟩
  · by_cases e : x = i
    · subst e
      rw [he]
      exact srt_key hB ht hy (by omega)
    · exact h.1 x hx y hy (by omega) (by omega)
  · by_cases e : y = t
    · subst e
      rw [← he]
      exact srt_key hA hi hx (by omega)
    · exact h.2 x hx y hy (by omega) (by omega)
theorem inv_miss (O : LO lt) {A B : List (α × Int)} {i t : Nat} (hA : Srt lt (keys A)) (h : Inv lt A B i t) (ht : t < B.length) (hm : ∀ hi : i < A.length, lt B[t].1 A[i].1 = true) : Inv lt A B i (t + 1) ∧ B[t].1 ∉ keys A := by
  have habove : ∀ x (hx : x < A.length), i ≤ x → lt B[t].1 A[x].1 = true := fun x hx hix => by
    by_cases e : x = i
    · subst e; exact hm hx
    · exact O.trans _ _ _ (hm (by omega)) (srt_key hA (by omega) hx (by omega))
  refine ⟨⟨fun x hx y hy hxi hty => h.1 x hx y hy hxi (by omega), fun x hx y hy hxi hyt => ?_⟩, fun hk => ?_⟩
  · by_cases e : y = t
    · subst e; exact habove x hx hxi
    · exact h.2 x hx y hy hxi (by omega)
  · obtain ⟨e, he, hee⟩ := List.mem_map.1 hk
    obtain ⟨x, hx, rfl⟩ := List.getElem_of_mem he
    by_cases c : x < i
    · exact O.ne (h.1 x hx t ht c (Nat.le_refl _)) hee
    · exact O.ne (habove x hx (by omega)) hee.symm

/-- How many of l's keys A lacks. -/
def cm (A l : List (α × Int)) : Nat := (l.filter fun e => decide (e.1 ∉ keys A)).length
theorem cm_hit {A B : List (α × Int)} {t : Nat} (ht : t < B.length) (h : B[t].1 ∈ keys A) : cm A (B.take (t + 1)) = cm A (B.take t) := by
  unfold cm
  rw [List.take_succ_eq_append_getElem ht, List.filter_append, List.filter_cons_of_neg (by simpa using h)]
  simp
theorem cm_miss {A B : List (α × Int)} {t : Nat} (ht : t < B.length) (h : B[t].1 ∉ keys A) : cm A (B.take (t + 1)) = cm A (B.take t) + 1 := by
  unfold cm
  rw [List.take_succ_eq_append_getElem ht, List.filter_append, List.filter_cons_of_pos (by simpa using h)]
  simp
theorem cm_le (A l : List (α × Int)) : cm A l ≤ l.length := List.length_filter_le _ _

theorem upd_at {A B : List (α × Int)} {i : Nat} (h : i < A.length) : (upd A B)[i]'(by rw [length_upd]; exact h) = (A[i].1, up A[i].2 (look B A[i].1)) := by simp [upd]
theorem look_take_succ {B : List (α × Int)} {t : Nat} (ht : t < B.length) (p : α) : look (B.take (t + 1)) p = (look (B.take t) p).or (if B[t].1 = p then some B[t].2 else none) := by
  rw [List.take_succ_eq_append_getElem ht, look_append]
  rfl
theorem look_take_none (O : LO lt) {B : List (α × Int)} (hB : Srt lt (keys B)) {t : Nat} (ht : t < B.length) : look (B.take t) B[t].1 = none := by
  rw [look_none]
  intro hk
  obtain ⟨e, he, hee⟩ := List.mem_map.1 hk
  obtain ⟨x, hx, rfl⟩ := List.getElem_of_mem he
  rw [List.length_take] at hx
  rw [List.getElem_take] at hee
  exact O.ne (srt_key hB (by omega) ht (by omega)) hee
theorem upd_miss {A B : List (α × Int)} {t : Nat} (ht : t < B.length) (h : B[t].1 ∉ keys A) : upd A (B.take (t + 1)) = upd A (B.take t) := by
  unfold upd
  refine List.map_congr_left fun e he => ?_
  have hne : B[t].1 ≠ e.1 := fun e2 => h (by rw [e2]; exact mem_keys he)
  rw [look_take_succ ht, if_neg hne, Option.or_none]
/-- The count that is raised, and the list behind it. -/
theorem upd_hit (O : LO lt) {A B : List (α × Int)} {i t : Nat} (hA : Srt lt (keys A)) (hB : Srt lt (keys B)) (hi : i < A.length) (ht : t < B.length) (he : A[i].1 = B[t].1) :
    (upd A (B.take t))[i]'(by rw [length_upd]; exact hi) = A[i] ∧ upd A (B.take (t + 1)) = (upd A (B.take t)).set i (A[i].1, max A[i].2 B[t].2) := by
  have hn := look_take_none O hB ht
  refine ⟨by rw [upd_at hi, he, hn]; rw [← he]; rfl, ?_⟩
  apply List.ext_getElem
  · simp [length_upd]
  · intro x h1 h2
    have hx : x < A.length := by rw [length_upd] at h1; exact h1
    rw [upd_at hx, List.getElem_set]
    by_cases e : i = x
    · subst e
      rw [if_pos rfl, look_take_succ ht, if_pos he.symm, he, hn]
      rfl
    · rw [if_neg e, upd_at hx]
      have hne : B[t].1 ≠ A[x].1 := by
        rw [← he]
        intro e2
        rcases Nat.lt_or_gt_of_ne e with c | c
        · exact O.ne (srt_key hA hi hx c) e2
        · exact O.ne (srt_key hA hx hi c) e2.symm
      rw [look_take_succ ht, if_neg hne, Option.or_none]

/-- Nothing was lacking: the list with its counts raised is the merge. -/
theorem mrg_full {A B : List (α × Int)} (hA : Srt lt (keys A)) (h : cm A B = 0) : Mrg lt A B (upd A B) := by
  refine ⟨by rw [keys_upd]; exact hA, fun p => ?_⟩
  rw [look_upd]
  cases ha : look A p with
  | some c => cases look B p <;> rfl
  | none =>
    cases hb : look B p with
    | none => rfl
    | some d =>
      have hm := look_mem hb
      have hk := look_none.1 ha
      have : (p, d) ∈ B.filter fun e => decide (e.1 ∉ keys A) := List.mem_filter.2 ⟨hm, by simpa using hk⟩
      rw [List.eq_nil_of_length_eq_zero h] at this
      cases this

/-! ### The second pass -/
/-- What is left to place: A's first i entries and B's first j. -/
def left (lt : α → α → Bool) (A B : List (α × Int)) (i j : Nat) : List (α × Int) := (mg lt (A.take i).reverse (B.take j).reverse).reverse

theorem rev_take {A : List (α × Int)} {i : Nat} (h : i < A.length) : (A.take (i + 1)).reverse = A[i] :: (A.take i).reverse := by
  rw [List.take_succ_eq_append_getElem h, List.reverse_append]
  rfl
theorem left_none (A B : List (α × Int)) (i : Nat) : left lt A B i 0 = A.take i := by
  unfold left
  rw [List.take_zero, List.reverse_nil, mg_nil, List.reverse_reverse]
theorem left_zero {A B : List (α × Int)} {j : Nat} (hj : j < B.length) : left lt A B 0 (j + 1) = left lt A B 0 j ++ [B[j]] := by
  unfold left
  rw [rev_take hj, List.take_zero, List.reverse_nil, mg_left, List.reverse_cons]
theorem left_less {A B : List (α × Int)} {i j : Nat} (hi : i < A.length) (hj : j < B.length) (h : lt A[i].1 B[j].1 = true) : left lt A B (i + 1) (j + 1) = left lt A B (i + 1) j ++ [B[j]] := by
  unfold left
  rw [rev_take hj, rev_take hi, mg_less _ _ h, List.reverse_cons]
theorem left_same (O : LO lt) {A B : List (α × Int)} {i j : Nat} (hi : i < A.length) (hj : j < B.length) (h : A[i].1 = B[j].1) : left lt A B (i + 1) (j + 1) = left lt A B i j ++ [A[i]] := by
  unfold left
  rw [rev_take hj, rev_take hi, mg_same O _ _ h, List.reverse_cons]
theorem left_more {A B : List (α × Int)} {i j : Nat} (hi : i < A.length) (hj : j < B.length) (h : lt A[i].1 B[j].1 = false) (h2 : A[i].1 ≠ B[j].1) : left lt A B (i + 1) (j + 1) = left lt A B i (j + 1) ++ [A[i]] := by
  unfold left
  rw [rev_take hj, rev_take hi, mg_more _ _ h h2, List.reverse_cons, ← rev_take hj]
theorem left_all (A B : List (α × Int)) : left lt (upd A B) B A.length B.length = mrg lt A B := by
  unfold left mrg
  rw [List.take_of_length_le (by rw [length_upd]; omega), List.take_of_length_le (Nat.le_refl _)]
theorem mg_ge : ∀ (n : Nat) (as bs : List (α × Int)), as.length + bs.length = n → as.length ≤ (mg lt as bs).length
  | n, as, [], _ => by rw [mg_nil]; omega
  | n, [], b :: bs, _ => by simp
  | n, a :: as, b :: bs, hn => by
    cases n with
    | zero => simp at hn
    | succ n =>
    rw [mg]
    split
    · have := mg_ge n (a :: as) bs (by simp at hn ⊢; omega)
      simp only [List.length_cons] at this ⊢
      omega
    · split
      · have := mg_ge (n - 1) as bs (by simp at hn; omega)
        simp only [List.length_cons]
        omega
      · have := mg_ge n as (b :: bs) (by simp at hn ⊢; omega)
        simp only [List.length_cons]
        omega
theorem left_ge {A : List (α × Int)} (B : List (α × Int)) {i : Nat} (j : Nat) (hi : i ≤ A.length) : i ≤ (left lt A B i j).length := by
  unfold left
  rw [List.length_reverse]
  have := mg_ge (lt := lt) _ (A.take i).reverse (B.take j).reverse rfl
  rw [List.length_reverse, List.length_take] at this
  omega
end
end Go.Proofs.Qxb6625905a.Plain
