/-
  Seat b6625905a: WHAT A BLOCK OF THE CALL's OWN HOLDS.
-/
import Derived.Test.Qxb6625905aLeaf
import Derived.Laws.MakeOwn
import Derived.Laws.OwnMore
import Derived.OwnWalk
import Derived.Lib.SliceRun
namespace Go.Proofs.Qxb6625905a
open Go.RowKit Plain

/-- Block g holds just these cells, of element type T, none frozen. -/
def Blk (w : World) (g : Nat) (T : TypeId) (cs : List Value) : Prop := w.heap[g]? = some (.cells cs.toArray T (0, 0))

theorem Blk.lt {w : World} {g : Nat} {T : TypeId} {cs : List Value} (h : Blk w g T cs) : g < w.heap.size := by
  unfold Blk at h
  rcases Nat.lt_or_ge g w.heap.size with c | c
  · exact c
  · rw [Array.getElem?_eq_none c] at h
    cases h
theorem Blk.cell {w : World} {g : Nat} {T : TypeId} {cs : List Value} (h : Blk w g T cs) (j : Nat) : w.cell? ⟨g, j, none⟩ = cs[j]? := by
  rw [cell_of_row w g j cs.toArray T (0, 0) h]
  simp
theorem Blk.free {w : World} {g : Nat} {T : TypeId} {cs : List Value} (h : Blk w g T cs) (j : Nat) : w.frozen? ⟨g, j, none⟩ = false :=
  frozen_of_row w g j cs.toArray T h
theorem Blk.set {w : World} {g : Nat} {T : TypeId} {cs : List Value} (h : Blk w g T cs) (j : Nat) (v : Value) : Blk (w.setCell ⟨g, j, none⟩ v) g T (cs.set j v) := by
  unfold Blk at *
  rw [heap_setCell_same w g j cs.toArray T v h]
  simp
theorem Blk.set_other {w : World} {g : Nat} {T : TypeId} {cs : List Value} (h : Blk w g T cs) (a : Addr) (v : Value) (hne : g ≠ a.block) : Blk (w.setCell a v) g T cs := by
  unfold Blk at *
  rw [heap_setCell_other w a g v hne]
  exact h
theorem Blk.alloc {w : World} {g : Nat} {T : TypeId} {cs : List Value} (h : Blk w g T cs) (o : Obj) : Blk (w.alloc o) g T cs := by
  have hl := h.lt
  unfold Blk at *
  rw [Below.heap_alloc w o g hl]
  exact h
theorem Blk.drewN {w : World} {g : Nat} {T : TypeId} {cs : List Value} (h : Blk w g T cs) (q : Nat) : Blk (w.drewN q) g T cs := h
theorem Blk.below {w w' : World} {g B : Nat} {T : TypeId} {cs : List Value} (h : Blk w g T cs) (hb : Below B w w') (hg : g < B) : Blk w' g T cs := by
  unfold Blk at *
  rw [hb.block g hg]
  exact h
theorem blk_new (w : World) (cs : Array Value) (T : TypeId) : Blk (w.alloc (.cells cs T)) w.heap.size T cs.toList := by
  unfold Blk
  rw [heap_alloc_new]

theorem info9 : (Try.prog.info? 9).map (fun i => (i.zero, i.size, i.bytes)) = some (some (.string ⟨#[]⟩), 1, 16) := by kernel_rfl
theorem info29 : (Try.prog.info? 29).map (fun i => (i.zero, i.size, i.bytes)) = some (some (.int .u64 0), 1, 8) := by kernel_rfl
theorem info34 : (Try.prog.info? 34).map (fun i => (i.zero, i.size, i.bytes)) = some (some (.agg #[.string ⟨#[]⟩, .int .u64 0]), 2, 24) := by kernel_rfl

/-- 'make([]vectorEntry, n)'. -/
theorem make30 (n : Nat) (hn : n ≤ 4194304) (w : World) : (Instr.makeSlice 30 (.int .i64 (n : Int)) (.int .i64 (n : Int))).run Try.prog w =
    .ok (.slice (some ⟨w.heap.size, 0, none⟩) n n) (w.alloc (.cells (madeCells #[.string ⟨#[]⟩, .int .u64 0] (n * 2)) 34)) := by
  obtain ⟨i, hi, hz0, hz1, hz2⟩ := info_parts info34
  have := run_make (P := Try.prog) w 30 34 i _ Try.underlying30 hi hz0 .i64 .i64 n n (by omega) (Int.le_refl _) (by rw [hz2]; omega) (by omega)
  rw [hz1] at this
  simpa [Value.cells] using this
/-- 'make([]string, n)'. -/
theorem make22 (n : Nat) (hn : n ≤ 4194304) (w : World) : (Instr.makeSlice 22 (.int .i64 (n : Int)) (.int .i64 (n : Int))).run Try.prog w =
    .ok (.slice (some ⟨w.heap.size, 0, none⟩) n n) (w.alloc (.cells (madeCells #[.string ⟨#[]⟩] n) 9)) := by
  obtain ⟨i, hi, hz0, hz1, hz2⟩ := info_parts info9
  have := run_make (P := Try.prog) w 22 9 i _ Try.underlying22 hi hz0 .i64 .i64 n n (by omega) (Int.le_refl _) (by rw [hz2]; omega) (by omega)
  rw [hz1] at this
  simpa [Value.cells] using this
/-- 'make([]uint64, n)'. -/
theorem make23 (n : Nat) (hn : n ≤ 4194304) (w : World) : (Instr.makeSlice 23 (.int .i64 (n : Int)) (.int .i64 (n : Int))).run Try.prog w =
    .ok (.slice (some ⟨w.heap.size, 0, none⟩) n n) (w.alloc (.cells (madeCells #[.int .u64 0] n) 29)) := by
  obtain ⟨i, hi, hz0, hz1, hz2⟩ := info_parts info29
  have := run_make (P := Try.prog) w 23 29 i _ Try.underlying23 hi hz0 .i64 .i64 n n (by omega) (Int.le_refl _) (by rw [hz2]; omega) (by omega)
  rw [hz1] at this
  simpa [Value.cells] using this

/-! ### Entries as cells: two each -/
def flat (A : List (ByteArray × Int)) : List Value := A.flatMap fun e => [.string e.1, .int .u64 e.2]
theorem flat_length (A : List (ByteArray × Int)) : (flat A).length = A.length * 2 := by
  induction A with
  | nil => rfl
  | cons e r ih =>
    unfold flat at *
    rw [List.flatMap_cons, List.length_append, ih]
    simp
    omega
theorem flat_append (A B : List (ByteArray × Int)) : flat (A ++ B) = flat A ++ flat B := by simp [flat]
theorem flat_key {A : List (ByteArray × Int)} {k : Nat} (h : k < A.length) : (flat A)[k * 2]? = some (.string A[k].1) := by
  induction A generalizing k with
  | nil => simp at h
  | cons e r ih =>
    cases k with
    | zero => rfl
    | succ k =>
      have := ih (k := k) (by simpa using h)
      unfold flat at *
      rw [List.flatMap_cons, show (k + 1) * 2 = k * 2 + 1 + 1 by omega]
      simpa using this
theorem flat_cnt {A : List (ByteArray × Int)} {k : Nat} (h : k < A.length) : (flat A)[k * 2 + 1]? = some (.int .u64 A[k].2) := by
  induction A generalizing k with
  | nil => simp at h
  | cons e r ih =>
    cases k with
    | zero => rfl
    | succ k =>
      have := ih (k := k) (by simpa using h)
      unfold flat at *
      rw [List.flatMap_cons, show (k + 1) * 2 + 1 = (k * 2 + 1) + 1 + 1 by omega]
      simpa using this

/-! ### One entry stored -/
theorem set2 (T r : List Value) (z0 z1 x y : Value) (m : Nat) (hT : T.length = m) : ((T ++ z0 :: z1 :: r).set m x).set (m + 1) y = T ++ x :: y :: r := by
  subst hT
  simp
theorem split2 (ds : List Value) (m : Nat) (h : m + 2 ≤ ds.length) : ∃ z0 z1 r, ds = ds.take m ++ z0 :: z1 :: r ∧ ds.drop (m + 2) = r := by
  match hd : ds.drop m with
  | [] =>
    have := congrArg List.length hd
    simp at this
    omega
  | [_] =>
    have := congrArg List.length hd
    simp at this
    omega
  | z0 :: z1 :: r =>
    refine ⟨z0, z1, r, by rw [← hd, List.take_append_drop], ?_⟩
    rw [← List.drop_drop, hd]
    rfl
/-- Storing entry k of a row of cells: what stands ahead of it and behind it stays. -/
theorem set_entry (ds : List Value) (k : Nat) (x y : Value) (h : k * 2 + 2 ≤ ds.length) :
    (ds.set (k * 2) x).set (k * 2 + 1) y = ds.take (k * 2) ++ x :: y :: ds.drop (k * 2 + 2) := by
  obtain ⟨z0, z1, r, h1, h2⟩ := split2 ds (k * 2) h
  rw [h2]
  conv => lhs; rw [h1]
  exact set2 _ r z0 z1 x y (k * 2) (by rw [List.length_take]; omega)
theorem flat_one (e : ByteArray × Int) : flat [e] = [.string e.1, .int .u64 e.2] := rfl
theorem set_length (ds : List Value) (k : Nat) (x y : Value) : ((ds.set (k * 2) x).set (k * 2 + 1) y).length = ds.length := by simp

/-- Building a row from its head, entry by entry. -/
theorem head_step {ds : List Value} {A : List (ByteArray × Int)} {n k : Nat} {X : ByteArray} {C : Int} (hd : ds.length = n * 2 ∧ ds.take (k * 2) = flat (A.take k)) (hk : k < n) (hA : A[k]? = some (X, C)) :
    ((ds.set (k * 2) (.string X)).set (k * 2 + 1) (.int .u64 C)).length = n * 2 ∧ ((ds.set (k * 2) (.string X)).set (k * 2 + 1) (.int .u64 C)).take ((k + 1) * 2) = flat (A.take (k + 1)) := by
  refine ⟨by rw [set_length]; exact hd.1, ?_⟩
  have hl : (ds.take (k * 2)).length = k * 2 := by rw [List.length_take]; omega
  rw [set_entry ds k _ _ (by omega), show (k + 1) * 2 = k * 2 + 2 by omega, List.take_append, hl, List.take_of_length_le (by omega), show k * 2 + 2 - k * 2 = 2 by omega, hd.2]
  have ht : A.take (k + 1) = A.take k ++ [(X, C)] := by rw [List.take_add_one, hA]; rfl
  rw [ht, flat_append, flat_one]
  rfl
end Go.Proofs.Qxb6625905a
