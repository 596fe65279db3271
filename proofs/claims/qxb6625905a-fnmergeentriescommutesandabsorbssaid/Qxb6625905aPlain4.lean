/-
  Seat b6625905a: PLAIN LAWS, FOURTH PART: how many keys two lists share, counted from the first.
-/
import Derived.Test.Qxb6625905aPlain3
namespace Go.Proofs.Qxb6625905a.Plain
section
variable {α : Type} [DecidableEq α] {lt : α → α → Bool}

def shared (a b : List α) : Nat := (a.filter (· ∈ b)).length

theorem shared_none (b : List α) : shared ([] : List α) b = 0 := rfl
theorem shared_hit {xs ys : List α} {k c : Nat} {X : α} (hk : k < xs.length) (hX : xs[k] = X) (hm : X ∈ ys) (hc : c = shared (xs.take k) ys) : c + 1 = shared (xs.take (k + 1)) ys := by
  unfold shared at *
  rw [List.take_succ_eq_append_getElem hk, List.filter_append, hX, List.filter_cons_of_pos (by simpa using hm), hc]
  simp
theorem shared_miss {xs ys : List α} {k c : Nat} {X : α} (hk : k < xs.length) (hX : xs[k] = X) (hm : X ∉ ys) (hc : c = shared (xs.take k) ys) : c = shared (xs.take (k + 1)) ys := by
  unfold shared at *
  rw [List.take_succ_eq_append_getElem hk, List.filter_append, hX, List.filter_cons_of_neg (by simpa using hm), hc]
  simp
theorem mrg_shared (O : LO lt) {A B R : List (α × Int)} (hA : Srt lt (keys A)) (hB : Srt lt (keys B)) (h : Mrg lt A B R) : R.length + shared (keys A) (keys B) = A.length + B.length :=
  mrg_len O hA hB h
end
end Go.Proofs.Qxb6625905a.Plain
