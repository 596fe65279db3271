/-
  Seat b6625905a: THE SECOND PASS of mergeEntries on its row of cells: the list filled from its end; slices.Grow at this program.
-/
import Derived.Test.Qxb6625905aMem
import Derived.Test.Qxb6625905aPlain3
import Derived.Test.Qxb6625905aShelf
namespace Go.Proofs.Qxb6625905a
open Go.RowKit Plain

abbrev Ent := ByteArray × Int

/-- The row ds, with A's first i entries and B's first j still to be placed, k places free ahead of what is placed. -/
structure Fill (A B R : List Ent) (N : Nat) (ds : List Value) (i j k : Nat) : Prop where
  size : N * 2 ≤ ds.length
  len : R.length = N
  kN : k ≤ N
  iA : i ≤ A.length
  jB : j ≤ B.length
  head : ds.take (i * 2) = flat (A.take i)
  tail : (ds.take (N * 2)).drop (k * 2) = flat (R.drop k)
  rest : left ltB A B i j = R.take k

theorem Fill.count {A B R : List Ent} {N : Nat} {ds : List Value} {i j k : Nat} (h : Fill A B R N ds i j k) : (left ltB A B i j).length = k := by
  rw [h.rest, List.length_take, h.len]
  have := h.kN
  omega
theorem left_pos {A B : List Ent} {i j : Nat} (hj : j < B.length) : 0 < (left ltB A B i (j + 1)).length := by
  unfold left
  rw [rev_take hj, List.length_reverse]
  cases (A.take i).reverse with
  | nil => rw [mg_left]; simp
  | cons a r =>
    rw [mg]
    split
    · simp
    · split <;> simp
theorem Fill.pos {A B R : List Ent} {N : Nat} {ds : List Value} {i j k : Nat} (h : Fill A B R N ds i (j + 1) k) : ∃ m, k = m + 1 := by
  have h1 := h.count
  have h2 := left_pos (A := A) (i := i) h.jB
  exact ⟨k - 1, by omega⟩
theorem Fill.above {A B R : List Ent} {N : Nat} {ds : List Value} {i j k : Nat} (h : Fill A B R N ds i j k) : i ≤ k := by
  have h1 := h.count
  have h2 := left_ge (lt := ltB) B j h.iA
  omega

theorem take_flat_key {ds : List Value} {A : List Ent} {i : Nat} (h : ds.take ((i + 1) * 2) = flat (A.take (i + 1))) (hi : i < A.length) : ds[i * 2]? = some (.string A[i].1) ∧ ds[i * 2 + 1]? = some (.int .u64 A[i].2) := by
  have hi' : i < (A.take (i + 1)).length := by rw [List.length_take]; omega
  have e : (A.take (i + 1))[i] = A[i] := List.getElem_take
  constructor
  · have h1 : (ds.take ((i + 1) * 2))[i * 2]? = ds[i * 2]? := List.getElem?_take_of_lt (by omega)
    rw [← h1, h, flat_key hi', e]
  · have h1 : (ds.take ((i + 1) * 2))[i * 2 + 1]? = ds[i * 2 + 1]? := List.getElem?_take_of_lt (by omega)
    rw [← h1, h, flat_cnt hi', e]

/-- One entry placed. -/
theorem Fill.step {A B R : List Ent} {N : Nat} {ds : List Value} {i j i2 j2 m : Nat} {e : Ent} (h : Fill A B R N ds i j (m + 1)) (hi : i2 ≤ i) (hj : j2 ≤ B.length) (hl : left ltB A B i j = left ltB A B i2 j2 ++ [e]) :
    Fill A B R N ((ds.set (m * 2) (.string e.1)).set (m * 2 + 1) (.int .u64 e.2)) i2 j2 m := by
  have hm : m < R.length := by have := h.kN; have := h.len; omega
  have hsz := h.size
  have hlen := h.len
  have hr : R.take m ++ [R[m]] = left ltB A B i2 j2 ++ [e] := by rw [← hl, h.rest, List.take_succ_eq_append_getElem hm]
  obtain ⟨h1, h2⟩ := List.append_inj' hr rfl
  have he : R[m] = e := (List.cons.inj h2).1
  have him : i2 ≤ m := by
    have c := congrArg List.length h1
    rw [List.length_take] at c
    have g := left_ge (lt := ltB) B j2 (A := A) (i := i2) (by have := h.iA; omega)
    omega
  have hset := set_entry ds m (.string e.1) (.int .u64 e.2) (by omega)
  refine ⟨by rw [set_length]; exact hsz, hlen, by omega, by have := h.iA; omega, hj, ?_, ?_, h1.symm⟩
  · rw [hset, List.take_append_of_le_length (by rw [List.length_take]; omega), List.take_take, Nat.min_eq_left (by omega)]
    have := congrArg (List.take (i2 * 2)) h.head
    rw [List.take_take, Nat.min_eq_left (by omega)] at this
    rw [this]
    have e1 : A.take i = A.take i2 ++ (A.take i).drop i2 := by
      conv => lhs; rw [← List.take_append_drop i2 (A.take i)]
      rw [List.take_take, Nat.min_eq_left hi]
    rw [e1, flat_append, List.take_append_of_le_length (by rw [flat_length, List.length_take]; have := h.iA; omega), List.take_of_length_le (by rw [flat_length, List.length_take]; omega)]
  · have hd : (ds.take (N * 2)).drop (m * 2 + 2) = flat (R.drop (m + 1)) := by rw [show m * 2 + 2 = (m + 1) * 2 by omega]; exact h.tail
    have hl2 : (ds.take (m * 2)).length = m * 2 := by rw [List.length_take]; omega
    rw [hset, List.drop_take, List.drop_append, hl2, List.drop_of_length_le (by omega), Nat.sub_self, List.drop_zero, List.nil_append, List.drop_eq_getElem_cons hm, he]
    rw [List.drop_take] at hd
    have e2 : N * 2 - m * 2 = (N * 2 - (m * 2 + 2)) + 1 + 1 := by omega
    rw [e2, List.take_succ_cons, List.take_succ_cons, hd]
    rfl

/-- All is placed. -/
theorem Fill.done {A B R : List Ent} {N : Nat} {ds : List Value} {i k : Nat} (h : Fill A B R N ds i 0 k) : ds.take (N * 2) = flat R := by
  have h1 := h.rest
  rw [left_none] at h1
  have hk : i = k := by
    have c := h.count
    rw [left_none, List.length_take] at c
    have := h.iA
    omega
  subst hk
  have hiN := h.kN
  rw [← List.take_append_drop (i * 2) (ds.take (N * 2)), List.take_take, Nat.min_eq_left (by omega), h.head, h.tail, h1, ← flat_append, List.take_append_drop]

theorem Fill.start {A B : List Ent} {ds Z : List Value} (hds : ds = flat (upd A B) ++ Z) (hZ : (mrg ltB A B).length * 2 ≤ ds.length) : Fill (upd A B) B (mrg ltB A B) (mrg ltB A B).length ds A.length B.length (mrg ltB A B).length where
  size := hZ
  len := rfl
  kN := Nat.le_refl _
  iA := by rw [length_upd]; exact Nat.le_refl _
  jB := Nat.le_refl _
  head := by
    rw [hds, List.take_append_of_le_length (by rw [flat_length, length_upd]; omega), List.take_of_length_le (by rw [flat_length, length_upd]; omega), List.take_of_length_le (by rw [length_upd]; omega)]
  tail := by rw [List.drop_of_length_le (by rw [List.length_take]; omega), List.drop_of_length_le (Nat.le_refl _)]; rfl
  rest := by rw [left_all, List.take_of_length_le (Nat.le_refl _)]

/-! ### slices.Grow -/
/-- The slice at a holds the entries A in a block of its own, g. -/
def Ents (w : World) (a : Option Addr) (g : Nat) (A : List Ent) : Prop := A ≠ [] → a = some ⟨g, 0, none⟩ ∧ Blk w g 34 (flat A)
theorem Ents.of {w : World} {a : Option Addr} {g : Nat} {A : List Ent} (ha : a = some ⟨g, 0, none⟩) (h : Blk w g 34 (flat A)) : Ents w a g A := fun _ => ⟨ha, h⟩

theorem grow_calls (a : Option Addr) (g : Nat) (L : List Ent) (m : Nat) (hm : 1 ≤ m) (hb : L.length + m ≤ 4194304) (w : World) (h : Ents w a g L) :
    Calls Try.prog 14 #[.slice a L.length L.length, .int .i64 m] w fun e w' => ∃ (cap : Nat) (Z : List Value), e = .returned (.slice (some ⟨w.heap.size, 0, none⟩) L.length cap) ∧ L.length + m ≤ cap ∧ cap ≤ maxLen ∧
      Hid (m * 2 ≤ Z.length) ∧ Blk w' w.heap.size 34 (flat L ++ Z) ∧ Below w.heap.size w w' := by
  obtain ⟨i, hi, hz0, hz1, hz2⟩ := info_parts info34
  refine (Any8.slices_Grow_grow Try.growE i _ hi hz0 (by rw [hz1]; omega) a L.length L.length m (flat L) w (Nat.le_refl _) (by omega) (by rw [hz2]; omega) (by omega)
    (by rw [flat_length, hz1]) (fun ha => ?_) (fun b hb j v hv => ?_)).mono ?_
  · by_cases hne : L = []
    · rw [hne]; rfl
    · rw [(h hne).1] at ha
      cases ha
  · have hne : L ≠ [] := fun e => by rw [e] at hv; simp [flat] at hv
    obtain ⟨h1, h2⟩ := h hne
    rw [h1] at hb
    obtain rfl := (Option.some.inj hb).symm
    have := h2.cell j
    rw [hv] at this
    by_cases hj : j = 0 <;> simpa [Addr.add, hj] using this
  · rintro e w' ⟨rfl, rfl⟩
    refine ⟨_, (Builtin.zeroCells (Value.agg #[.string ⟨#[]⟩, .int .u64 0]).cells (L.length + m - L.length) ++ Builtin.zeroCells (Value.agg #[.string ⟨#[]⟩, .int .u64 0]).cells (grownCap w (L.length + m) L.length 34 - (L.length + m))).toList, rfl, grownCap_ge w _ _ 34, grownCap_le_maxLen w _ _ 34 (by unfold maxLen; omega), ?_, ?_, ?_⟩
    · unfold Hid
      rw [Array.length_toList, Array.size_append, size_zeroCells]
      have : (Value.agg #[.string ⟨#[]⟩, .int .u64 0]).cells.size = 2 := rfl
      rw [this]
      omega
    · have := blk_new w.drew ((flat L).toArray ++ Builtin.zeroCells (Value.agg #[.string ⟨#[]⟩, .int .u64 0]).cells (L.length + m - L.length) ++ Builtin.zeroCells (Value.agg #[.string ⟨#[]⟩, .int .u64 0]).cells (grownCap w (L.length + m) L.length 34 - (L.length + m))) 34
      rw [show Try.growE_ren.t 25 = 34 from rfl]
      simpa [List.append_assoc] using this
    · exact (Below.drew (Below.refl _ _)).alloc (Nat.le_refl _) _
end Go.Proofs.Qxb6625905a
