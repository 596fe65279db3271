/-
  Seat b6625905a: PLAIN LAWS, SECOND PART: the merge as mergeEntries makes it: the counts raised first, then the list filled from its end.
-/
import Derived.Test.Qxb6625905aPlain
namespace Go.Proofs.Qxb6625905a.Plain
set_option linter.unusedSectionVars false
section
variable {α : Type} [DecidableEq α] {lt : α → α → Bool}

/-! ### The counts raised -/
def up (c : Int) : Option Int → Int
  | none => c
  | some d => max c d
def upd (A B : List (α × Int)) : List (α × Int) := A.map fun e => (e.1, up e.2 (look B e.1))
theorem keys_upd (A B : List (α × Int)) : keys (upd A B) = keys A := by simp [keys, upd, Function.comp_def]
theorem length_upd (A B : List (α × Int)) : (upd A B).length = A.length := by simp [upd]
theorem upd_nil (A : List (α × Int)) : upd A [] = A := by
  unfold upd
  simp [look, up]
theorem look_upd (A B : List (α × Int)) (p : α) : look (upd A B) p = (look A p).map fun c => up c (look B p) := by
  induction A with
  | nil => rfl
  | cons e r ih =>
    show look ((e.1, up e.2 (look B e.1)) :: upd r B) p = _
    rw [look_cons, look_cons]
    by_cases h : e.1 = p
    · rw [if_pos h, if_pos h]
      simp [h]
    · rw [if_neg h, if_neg h, ih]

/-! ### The list filled from its end: both lists with the greatest key first -/
def Dsc (lt : α → α → Bool) (l : List (α × Int)) : Prop := l.Pairwise fun a b => lt b.1 a.1 = true

def mg (lt : α → α → Bool) : List (α × Int) → List (α × Int) → List (α × Int)
  | as, [] => as
  | [], b :: bs => b :: mg lt [] bs
  | a :: as, b :: bs => if lt a.1 b.1 then b :: mg lt (a :: as) bs else if a.1 = b.1 then a :: mg lt as bs else a :: mg lt as (b :: bs)

theorem mg_nil (as : List (α × Int)) : mg lt as [] = as := by
  cases as <;> simp [mg]
theorem mg_left (b : α × Int) (bs : List (α × Int)) : mg lt [] (b :: bs) = b :: mg lt [] bs := by simp [mg]
theorem mg_less {a b : α × Int} (as bs : List (α × Int)) (h : lt a.1 b.1 = true) : mg lt (a :: as) (b :: bs) = b :: mg lt (a :: as) bs := by
  rw [mg, if_pos h]
theorem mg_same {a b : α × Int} (O : LO lt) (as bs : List (α × Int)) (h : a.1 = b.1) : mg lt (a :: as) (b :: bs) = a :: mg lt as bs := by
  rw [mg, h, O.irrefl, if_neg (by simp), if_pos rfl]
theorem mg_more {a b : α × Int} (as bs : List (α × Int)) (h : lt a.1 b.1 = false) (h2 : a.1 ≠ b.1) : mg lt (a :: as) (b :: bs) = a :: mg lt as (b :: bs) := by
  rw [mg, h, if_neg (by simp), if_neg h2]

theorem keys_other {a : α × Int} {as : List (α × Int)} {p : α} (h : p ≠ a.1) : p ∈ keys (a :: as) ↔ p ∈ keys as := by
  unfold keys
  rw [List.map_cons, List.mem_cons]
  exact ⟨fun h2 => h2.resolve_left h, Or.inr⟩

theorem dsc_look (O : LO lt) {e : α × Int} {l : List (α × Int)} (h : Dsc lt (e :: l)) : look l e.1 = none := by
  rw [look_none]
  intro hm
  obtain ⟨x, hx, hxe⟩ := List.mem_map.1 hm
  have := (List.pairwise_cons.1 h).1 x hx
  exact O.ne this hxe
theorem dsc_above (O : LO lt) {a b : α × Int} {l : List (α × Int)} (h : Dsc lt (a :: l)) (hab : lt a.1 b.1 = true) : look (a :: l) b.1 = none := by
  rw [look_none]
  intro hm
  rcases List.mem_cons.1 hm with e | hm
  · exact O.ne hab e.symm
  · obtain ⟨x, hx, hxe⟩ := List.mem_map.1 hm
    have h1 := (List.pairwise_cons.1 h).1 x hx
    exact O.ne (O.trans _ _ _ h1 hab) hxe

/-- All that the merge is: its members, its order, its look-up, its length. -/
theorem mg_facts (O : LO lt) : ∀ (n : Nat) (as bs : List (α × Int)), as.length + bs.length = n → Dsc lt as → Dsc lt bs →
    (∀ e ∈ mg lt as bs, e ∈ as ∨ e ∈ bs) ∧ Dsc lt (mg lt as bs) ∧ (∀ p, look (mg lt as bs) p = (look as p).or (look bs p)) ∧
    (mg lt as bs).length = as.length + (bs.filter fun e => decide (e.1 ∉ keys as)).length
  | n, as, [], _, ha, _ => by
    rw [mg_nil]
    exact ⟨fun e h => Or.inl h, ha, fun p => by simp [look], by simp⟩
  | n, [], b :: bs, hn, ha, hb => by
    cases n with
    | zero => simp at hn
    | succ n =>
    obtain ⟨h1, h2, h3, h4⟩ := mg_facts O n [] bs (by simp at hn ⊢; omega) ha (List.pairwise_cons.1 hb).2
    rw [mg_left]
    refine ⟨fun e h => ?_, List.Pairwise.cons (fun e he => ?_) h2, fun p => ?_, ?_⟩
    · rcases List.mem_cons.1 h with rfl | h
      · exact Or.inr (by simp)
      · rcases h1 e h with h | h
        · exact Or.inl h
        · exact Or.inr (List.mem_cons_of_mem _ h)
    · rcases h1 e he with h | h
      · cases h
      · exact (List.pairwise_cons.1 hb).1 e h
    · rw [look_cons, h3, look_cons]
      by_cases h : b.1 = p
      · rw [if_pos h, if_pos h]; simp [look]
      · rw [if_neg h, if_neg h]
    · rw [List.length_cons, h4]
      simp [keys]
  | n, a :: as, b :: bs, hn, ha, hb => by
    cases n with
    | zero => simp at hn
    | succ n =>
    have ha' := (List.pairwise_cons.1 ha).2
    have hb' := (List.pairwise_cons.1 hb).2
    cases hab : lt a.1 b.1 with
    | true =>
      obtain ⟨h1, h2, h3, h4⟩ := mg_facts O n (a :: as) bs (by simp at hn ⊢; omega) ha hb'
      rw [mg_less as bs hab]
      refine ⟨fun e h => ?_, List.Pairwise.cons (fun e he => ?_) h2, fun p => ?_, ?_⟩
      · rcases List.mem_cons.1 h with rfl | h
        · exact Or.inr (by simp)
        · rcases h1 e h with h | h
          · exact Or.inl h
          · exact Or.inr (List.mem_cons_of_mem _ h)
      · rcases h1 e he with h | h
        · rcases List.mem_cons.1 h with rfl | h
          · exact hab
          · exact O.trans _ _ _ ((List.pairwise_cons.1 ha).1 e h) hab
        · exact (List.pairwise_cons.1 hb).1 e h
      · rw [look_cons, h3]
        by_cases h : b.1 = p
        · rw [if_pos h, ← h, dsc_above O ha hab, look_cons b, if_pos rfl]
          rfl
        · rw [if_neg h, look_cons b, if_neg h]
      · have hnk : b.1 ∉ keys (a :: as) := look_none.1 (dsc_above O ha hab)
        rw [List.length_cons, h4, List.filter_cons_of_pos (by simpa using hnk)]
        simp only [List.length_cons]
        omega
    | false =>
      by_cases he : a.1 = b.1
      · obtain ⟨h1, h2, h3, h4⟩ := mg_facts O (n - 1) as bs (by simp at hn; omega) ha' hb'
        rw [mg_same O as bs he]
        refine ⟨fun e h => ?_, List.Pairwise.cons (fun e hm => ?_) h2, fun p => ?_, ?_⟩
        · rcases List.mem_cons.1 h with rfl | h
          · exact Or.inl (by simp)
          · rcases h1 e h with h | h
            · exact Or.inl (List.mem_cons_of_mem _ h)
            · exact Or.inr (List.mem_cons_of_mem _ h)
        · rcases h1 e hm with h | h
          · exact (List.pairwise_cons.1 ha).1 e h
          · rw [he]; exact (List.pairwise_cons.1 hb).1 e h
        · rw [look_cons, h3, look_cons a]
          by_cases h : a.1 = p
          · rw [if_pos h, if_pos h]; rfl
          · rw [if_neg h, if_neg h, look_cons b, if_neg (fun e => h (he.trans e))]
        · have hk : b.1 ∈ keys (a :: as) := by rw [← he]; simp [keys]
          have hcong : (bs.filter fun e => decide (e.1 ∉ keys (a :: as))) = bs.filter fun e => decide (e.1 ∉ keys as) := by
            refine List.filter_congr fun x hx => ?_
            have hne : x.1 ≠ a.1 := by rw [he]; exact O.ne ((List.pairwise_cons.1 hb).1 x hx)
            exact decide_eq_decide.2 (not_congr (keys_other hne))
          rw [List.length_cons, h4, List.filter_cons_of_neg (by simpa using hk), hcong, List.length_cons]
          omega
      · have hba : lt b.1 a.1 = true := by
          cases c : lt b.1 a.1 with
          | true => rfl
          | false => exact absurd (O.tri _ _ hab c) he
        obtain ⟨h1, h2, h3, h4⟩ := mg_facts O n as (b :: bs) (by simp at hn ⊢; omega) ha' hb
        rw [mg_more as bs hab he]
        refine ⟨fun e h => ?_, List.Pairwise.cons (fun e hm => ?_) h2, fun p => ?_, ?_⟩
        · rcases List.mem_cons.1 h with rfl | h
          · exact Or.inl (by simp)
          · rcases h1 e h with h | h
            · exact Or.inl (List.mem_cons_of_mem _ h)
            · exact Or.inr h
        · rcases h1 e hm with h | h
          · exact (List.pairwise_cons.1 ha).1 e h
          · rcases List.mem_cons.1 h with rfl | h
            · exact hba
            · exact O.trans _ _ _ ((List.pairwise_cons.1 hb).1 e h) hba
        · rw [look_cons, h3, look_cons a]
          by_cases h : a.1 = p
          · rw [if_pos h, if_pos h]; rfl
          · rw [if_neg h, if_neg h]
        · have hcong : ((b :: bs).filter fun e => decide (e.1 ∉ keys (a :: as))) = (b :: bs).filter fun e => decide (e.1 ∉ keys as) := by
            refine List.filter_congr fun x hx => ?_
            have hne : x.1 ≠ a.1 := by
              rcases List.mem_cons.1 hx with rfl | hx
              · exact fun e => he e.symm
              · exact O.ne (O.trans _ _ _ ((List.pairwise_cons.1 hb).1 x hx) hba)
            exact decide_eq_decide.2 (not_congr (keys_other hne))
          rw [List.length_cons, h4, hcong, List.length_cons]
          omega

/-! ### The merge of two ascending lists -/
def mrg (lt : α → α → Bool) (A B : List (α × Int)) : List (α × Int) := (mg lt (upd A B).reverse B.reverse).reverse

theorem dsc_reverse {l : List (α × Int)} (h : Srt lt (keys l)) : Dsc lt l.reverse := by
  unfold Dsc
  rw [List.pairwise_reverse]
  unfold Srt keys at h
  rw [List.pairwise_map] at h
  exact h
theorem srt_of_dsc {l : List (α × Int)} (h : Dsc lt l) : Srt lt (keys l.reverse) := by
  unfold Srt keys
  rw [List.pairwise_map, List.pairwise_reverse]
  exact h

theorem up_or (x y : Option Int) : (x.map fun c => up c y).or y = omax x y := by
  cases x <;> cases y <;> rfl

theorem mrg_ok (O : LO lt) {A B : List (α × Int)} (hA : Srt lt (keys A)) (hB : Srt lt (keys B)) : Mrg lt A B (mrg lt A B) := by
  have hA' : Srt lt (keys (upd A B)) := by rw [keys_upd]; exact hA
  obtain ⟨h1, h2, h3, h4⟩ := mg_facts O _ _ _ rfl (dsc_reverse hA') (dsc_reverse hB)
  have hs : Srt lt (keys (mrg lt A B)) := srt_of_dsc h2
  refine ⟨hs, fun p => ?_⟩
  have hn : (keys (mg lt (upd A B).reverse B.reverse)).Nodup := by
    have := srt_nodup O hs
    unfold mrg keys at this
    rw [List.map_reverse] at this
    have h5 := List.pairwise_reverse.1 this
    exact List.Pairwise.imp (fun h => Ne.symm h) h5
  unfold mrg
  rw [look_reverse hn, h3, look_reverse (srt_nodup O hA'), look_reverse (srt_nodup O hB), look_upd, up_or]

theorem mrg_length (O : LO lt) {A B : List (α × Int)} (hA : Srt lt (keys A)) (hB : Srt lt (keys B)) :
    (mrg lt A B).length = A.length + (B.filter fun e => decide (e.1 ∉ keys A)).length := by
  have hA' : Srt lt (keys (upd A B)) := by rw [keys_upd]; exact hA
  obtain ⟨h1, h2, h3, h4⟩ := mg_facts O _ _ _ rfl (dsc_reverse hA') (dsc_reverse hB)
  have hk : keys (upd A B).reverse = (keys A).reverse := by
    have := keys_upd A B
    unfold keys at *
    rw [List.map_reverse, this]
  unfold mrg
  rw [List.length_reverse, h4, List.length_reverse, length_upd, hk, List.filter_reverse, List.length_reverse]
  simp
end
end Go.Proofs.Qxb6625905a.Plain
