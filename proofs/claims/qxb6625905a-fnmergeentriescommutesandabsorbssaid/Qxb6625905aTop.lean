/-
  Seat b6625905a: WHAT BOTH LAWS BEGIN WITH: the copies.
-/
import Derived.Test.Qxb6625905aSizes
import Derived.Test.Qxb6625905aSame
import Derived.Test.Qxb6625905aZZ
import Derived.Laws.CopyOwn
import Derived.Deep.Cut
namespace Go.Proofs.Qxb6625905a
open Go.RowKit Plain

theorem SomeBool.cases {e : Ending} (h : SomeBool e) : e = .returned (.bool true) ∨ e = .returned (.bool false) := by
  obtain ⟨r, rfl⟩ := h
  cases r
  · exact Or.inr rfl
  · exact Or.inl rfl

/-- A slice that came in, or its copy. -/
def Cpy {β : Type} (f : β → Value) (w : World) (xs : List β) (s : Value) (wx : World) : Prop := ∃ a cap, s = .slice a xs.length cap ∧ Rd f wx.heap.size wx a xs ∧ Below w.heap.size w wx

theorem src_cells {β : Type} {f : β → Value} {B : Nat} {w wr : World} {a : Option Addr} {xs : List β} (h : Rd f B w a xs) (hw : ∀ b o, b < B → wr.cell? ⟨b, o, none⟩ = w.cell? ⟨b, o, none⟩) (hpos : 0 < (xs.map f).length) :
    ∃ ad, a = some ad ∧ ∀ j v, (xs.map f)[j]? = some v → wr.cell? (ad.add j) = some v := by
  have hne : xs ≠ [] := fun e => by rw [e] at hpos; simp at hpos
  obtain ⟨b, off, rfl, hb, hc⟩ := h hne
  refine ⟨_, rfl, fun j v hv => ?_⟩
  have hj : j < xs.length := by
    have := (List.getElem?_eq_some_iff.1 hv).1
    simpa using this
  rw [List.getElem?_map, List.getElem?_eq_getElem hj] at hv
  have hv' : f xs[j] = v := by simpa using hv
  rw [← hv', ← hc j hj, ← hw b (off + j) hb]
  by_cases h0 : j = 0 <;> simp [Addr.add, h0]

/-- 'copy(zzc, xs)' into a row that was just made. -/
theorem wpList_cpy {β : Type} (f : β → Value) (T E : TypeId) (hu : Try.prog.underlying T = some (.slice E)) (hsz : (Try.prog.info? E).map (·.size) = some 1) (h1 : ∀ x, (f x).oneCell' = true)
    {W : World} {ops : Array Oper} {rest : List Oper} {o : Oper} {a : Act} {Q : Exit → Act → World → Prop} (hgd : o.guard = none) (d s : Operand)
    (ho : o.op = .call { callee := .builtin .copy, args := #[d, s], argTypes := #[T, T] }) (xs : List β) (g c0 : Nat) (sp : Option Addr)
    (hd : a.eval d = .slice (some ⟨g, 0, none⟩) xs.length xs.length) (hs : a.eval s = .slice sp xs.length c0) (z : Value) (hg : Blk W g E (madeCells #[z] xs.length).toList)
    (B : Nat) (w0 : World) (hb : Below B w0 W) (hBg : B ≤ g) (hsrc : Rd f g W sp xs)
    (h : ∀ w', Blk w' g E (xs.map f) → Below B w0 w' → wpList Try.prog ops Q rest (a.put o.dst (goInt xs.length)) w') : wpList Try.prog ops Q (o :: rest) a W := by
  have hl : (madeCells #[z] xs.length).toList.length = xs.length := by simp [size_madeCells]
  refine wpList_copy_splice hgd d s T T ho E hu hsz _ _ _ _ _ _ hd hs g 0 (madeCells #[z] xs.length).toList E hg (xs.map f) (by simp) (fun hpos => ?_) (by rw [hl]; simp) (fun v hv => ?_) B w0 hb hBg ?_
  · obtain ⟨ad, e, hc⟩ := src_cells (wr := W) hsrc (fun _ _ _ => rfl) hpos
    exact ⟨rfl, ad, e, hc⟩
  · obtain ⟨x, _, rfl⟩ := List.mem_map.1 hv
    exact h1 x
  · intro w' hg' hb'
    have h2 := hg'.out
    unfold splice at h2
    rw [List.take_zero, List.nil_append, List.drop_of_length_le (by rw [hl]; simp), List.append_nil] at h2
    have h3 := h w' h2 hb'
    rw [List.length_map]
    exact h3
end Go.Proofs.Qxb6625905a
