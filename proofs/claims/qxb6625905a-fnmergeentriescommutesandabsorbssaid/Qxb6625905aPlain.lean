/-
  Seat b6625905a: PLAIN LAWS: merging two lists of entries, each strictly sorted by key. No Go, no program.
-/
import Derived.Laws.Strings
namespace Go.Proofs.Qxb6625905a.Plain
set_option linter.unusedSectionVars false
section
variable {α : Type} [DecidableEq α]

/-- A strict linear order, as a Bool. -/
structure LO (lt : α → α → Bool) : Prop where
  irrefl : ∀ a, lt a a = false
  trans : ∀ a b c, lt a b = true → lt b c = true → lt a c = true
  tri : ∀ a b, lt a b = false → lt b a = false → a = b

variable {lt : α → α → Bool}

theorem LO.asymm (O : LO lt) {a b : α} (h : lt a b = true) : lt b a = false := by
  cases hb : lt b a with
  | false => rfl
  | true =>
    have := O.trans a b a h hb
    rw [O.irrefl] at this
    cases this
theorem LO.ne (O : LO lt) {a b : α} (h : lt a b = true) : a ≠ b := by
  intro e
  subst e
  rw [O.irrefl] at h
  cases h

/-! ### Sorted keys -/
def Srt (lt : α → α → Bool) (l : List α) : Prop := l.Pairwise fun a b => lt a b = true
def Adj (lt : α → α → Bool) (l : List α) : Prop := ∀ j (h : j + 1 < l.length), lt l[j] l[j + 1] = true

theorem adj_srt (O : LO lt) : ∀ (l : List α), Adj lt l → Srt lt l
  | [], _ => List.Pairwise.nil
  | [a], _ => List.pairwise_singleton _ _
  | a :: b :: r, h => by
    have h1 : Adj lt (b :: r) := fun j hj => h (j + 1) (by simp at hj ⊢; omega)
    have ih := adj_srt O (b :: r) h1
    have hab : lt a b = true := h 0 (by simp)
    refine List.Pairwise.cons (fun x hx => ?_) ih
    rcases List.mem_cons.1 hx with rfl | hx
    · exact hab
    · exact O.trans _ _ _ hab ((List.pairwise_cons.1 ih).1 x hx)

theorem srt_at {l : List α} (h : Srt lt l) {i j : Nat} (hi : i < l.length) (hj : j < l.length) (hij : i < j) : lt l[i] l[j] = true :=
  List.pairwise_iff_getElem.1 h i j hi hj hij
theorem srt_adj {l : List α} (h : Srt lt l) : Adj lt l := fun j hj => srt_at h (by omega) hj (by omega)
theorem srt_nodup (O : LO lt) {l : List α} (h : Srt lt l) : l.Nodup := List.Pairwise.imp (fun hab => O.ne hab) h

/-! ### Look-up -/
def keys (l : List (α × Int)) : List α := l.map (·.1)
def look : List (α × Int) → α → Option Int
  | [], _ => none
  | e :: r, p => if e.1 = p then some e.2 else look r p

theorem look_cons (e : α × Int) (r : List (α × Int)) (p : α) : look (e :: r) p = if e.1 = p then some e.2 else look r p := rfl

theorem look_none {l : List (α × Int)} {p : α} : look l p = none ↔ p ∉ keys l := by
  induction l with
  | nil => simp [look, keys]
  | cons e r ih =>
    unfold look keys
    by_cases h : e.1 = p
    · simp [h]
    · rw [if_neg h, ih]
      unfold keys
      simp only [List.map_cons, List.mem_cons, not_or]
      exact ⟨fun h2 => ⟨fun e' => h e'.symm, h2⟩, fun h2 => h2.2⟩
theorem look_mem {l : List (α × Int)} {p : α} {c : Int} (h : look l p = some c) : (p, c) ∈ l := by
  induction l with
  | nil => simp [look] at h
  | cons e r ih =>
    unfold look at h
    by_cases he : e.1 = p
    · rw [if_pos he] at h
      have : e = (p, c) := by
        obtain ⟨x, y⟩ := e
        simp at h he
        rw [h, he]
      rw [this]
      simp
    · rw [if_neg he] at h
      exact List.mem_cons_of_mem _ (ih h)
theorem mem_keys {l : List (α × Int)} {e : α × Int} (h : e ∈ l) : e.1 ∈ keys l := List.mem_map_of_mem h
theorem look_of_mem {l : List (α × Int)} (hn : (keys l).Nodup) {e : α × Int} (h : e ∈ l) : look l e.1 = some e.2 := by
  induction l with
  | nil => cases h
  | cons x r ih =>
    unfold keys at hn
    rw [List.map_cons, List.nodup_cons] at hn
    unfold look
    rcases List.mem_cons.1 h with rfl | h
    · rw [if_pos rfl]
    · have hne : x.1 ≠ e.1 := fun e' => hn.1 (by rw [e']; exact List.mem_map_of_mem h)
      rw [if_neg hne]
      exact ih hn.2 h
theorem look_iff {l : List (α × Int)} (hn : (keys l).Nodup) {p : α} {c : Int} : look l p = some c ↔ (p, c) ∈ l :=
  ⟨look_mem, fun h => look_of_mem hn h⟩
theorem look_append (a b : List (α × Int)) (p : α) : look (a ++ b) p = (look a p).or (look b p) := by
  induction a with
  | nil => rfl
  | cons e r ih =>
    rw [List.cons_append, look_cons, look_cons]
    by_cases h : e.1 = p
    · rw [if_pos h, if_pos h]; rfl
    · rw [if_neg h, if_neg h, ih]
theorem look_reverse {l : List (α × Int)} (hn : (keys l).Nodup) (p : α) : look l.reverse p = look l p := by
  have hn' : (keys l.reverse).Nodup := by
    unfold keys
    rw [List.map_reverse]
    exact List.pairwise_reverse.2 (List.Pairwise.imp (fun h => Ne.symm h) hn)
  cases h : look l p with
  | none =>
    rw [look_none] at h ⊢
    unfold keys at *
    simpa using h
  | some c =>
    rw [look_iff hn] at h
    rw [look_iff hn']
    simpa using h
theorem look_keys {l : List (α × Int)} {p : α} (h : p ∈ keys l) : ∃ c, look l p = some c := by
  cases hc : look l p with
  | none => exact absurd h (look_none.1 hc)
  | some c => exact ⟨c, rfl⟩

/-! ### The merge, by what it answers -/
def omax : Option Int → Option Int → Option Int
  | none, y => y
  | some a, none => some a
  | some a, some b => some (max a b)
theorem omax_comm (x y : Option Int) : omax x y = omax y x := by
  cases x <;> cases y <;> simp [omax, Int.max_comm]
theorem omax_absorb (x y : Option Int) : omax (omax x y) y = omax x y := by
  cases x <;> cases y <;> simp [omax] <;> omega
theorem omax_absorb' (x y : Option Int) : omax (omax x y) x = omax x y := by
  cases x <;> cases y <;> simp [omax] <;> omega

/-- R is the merge of A and B. -/
def Mrg (lt : α → α → Bool) (A B R : List (α × Int)) : Prop := Srt lt (keys R) ∧ ∀ p, look R p = omax (look A p) (look B p)

theorem uniq (O : LO lt) : ∀ (R S : List (α × Int)), Srt lt (keys R) → Srt lt (keys S) → (∀ p, look R p = look S p) → R = S
  | [], [], _, _, _ => rfl
  | [], s :: S, _, _, h => by
    have := h s.1
    simp [look] at this
  | r :: R, [], _, _, h => by
    have := h r.1
    simp [look] at this
  | r :: R, s :: S, hr, hs, h => by
    have hr' := hr
    have hs' := hs
    unfold Srt keys at hr hs
    rw [List.map_cons, List.pairwise_cons] at hr hs
    have hrn : r.1 ∉ keys R := fun hm => O.ne (hr.1 _ hm) rfl
    have hsn : s.1 ∉ keys S := fun hm => O.ne (hs.1 _ hm) rfl
    have e1 : r.1 = s.1 := by
      cases c1 : lt r.1 s.1 with
      | true =>
        have h1 := h r.1
        have h2 : look (s :: S) r.1 = none := by
          rw [look_none]
          intro hm
          rcases List.mem_cons.1 hm with e | hm
          · exact O.ne c1 e
          · exact O.ne (O.trans _ _ _ c1 (hs.1 _ hm)) rfl
        rw [h2] at h1
        simp [look] at h1
      | false =>
        cases c2 : lt s.1 r.1 with
        | true =>
          have h1 := h s.1
          have h2 : look (r :: R) s.1 = none := by
            rw [look_none]
            intro hm
            rcases List.mem_cons.1 hm with e | hm
            · exact O.ne c2 e
            · exact O.ne (O.trans _ _ _ c2 (hr.1 _ hm)) rfl
          rw [h2] at h1
          simp [look] at h1
        | false => exact O.tri _ _ c1 c2
    have e2 : r.2 = s.2 := by
      have h1 := h r.1
      unfold look at h1
      rw [if_pos rfl, if_pos e1.symm] at h1
      exact Option.some.inj h1
    have e3 : R = S := uniq O R S hr.2 hs.2 fun p => by
      have h1 := h p
      unfold look at h1
      by_cases hp : r.1 = p
      · have a1 : look R p = none := look_none.2 (hp ▸ hrn)
        have a2 : look S p = none := look_none.2 (hp ▸ e1 ▸ hsn)
        rw [a1, a2]
      · rw [if_neg hp, if_neg (fun e => hp (e1.trans e))] at h1
        exact h1
    obtain ⟨r1, r2⟩ := r
    obtain ⟨s1, s2⟩ := s
    simp at e1 e2
    rw [e1, e2, e3]

theorem mrg_comm (O : LO lt) {A B R S : List (α × Int)} (h : Mrg lt A B R) (k : Mrg lt B A S) : R = S :=
  uniq O R S h.1 k.1 fun p => by rw [h.2, k.2, omax_comm]
theorem mrg_again (O : LO lt) {A B R S : List (α × Int)} (h : Mrg lt A B R) (k : Mrg lt R B S) : R = S :=
  uniq O R S h.1 k.1 fun p => by rw [k.2, h.2, omax_absorb]
theorem mrg_again' (O : LO lt) {A B R S : List (α × Int)} (h : Mrg lt A B R) (k : Mrg lt R A S) : R = S :=
  uniq O R S h.1 k.1 fun p => by rw [k.2, h.2, omax_absorb']

theorem mrg_keys {A B R : List (α × Int)} (h : Mrg lt A B R) (p : α) : p ∈ keys R ↔ p ∈ keys A ∨ p ∈ keys B := by
  have h1 := h.2 p
  constructor
  · intro hp
    obtain ⟨c, hc⟩ := look_keys hp
    rw [hc] at h1
    cases ha : look A p with
    | some x => exact Or.inl (mem_keys (look_mem ha))
    | none =>
      cases hb : look B p with
      | some y => exact Or.inr (mem_keys (look_mem hb))
      | none => rw [ha, hb] at h1; simp [omax] at h1
  · intro hp
    cases hr : look R p with
    | some c => exact mem_keys (look_mem hr)
    | none =>
      rw [hr] at h1
      rcases hp with hp | hp
      · obtain ⟨c, hc⟩ := look_keys hp
        rw [hc] at h1
        cases hb : look B p <;> rw [hb] at h1 <;> simp [omax] at h1
      · obtain ⟨c, hc⟩ := look_keys hp
        rw [hc] at h1
        cases ha : look A p <;> rw [ha] at h1 <;> simp [omax] at h1

/-- How many keys two lists share, counted from either side. -/
theorem shared_len {a b : List α} (ha : a.Nodup) (hb : b.Nodup) : (a.filter (· ∈ b)).length = (b.filter (· ∈ a)).length := by
  refine List.Perm.length_eq ((List.perm_ext_iff_of_nodup (List.Nodup.sublist List.filter_sublist ha) (List.Nodup.sublist List.filter_sublist hb)).2 fun x => ?_)
  simp [List.mem_filter, and_comm]

theorem parted_len (a b : List α) : b.length = (b.filter (· ∈ a)).length + (b.filter (· ∉ a)).length := by
  induction b with
  | nil => rfl
  | cons x r ih =>
    by_cases h : x ∈ a <;> simp [h] <;> simp at ih <;> omega

theorem mrg_len (O : LO lt) {A B R : List (α × Int)} (hA : Srt lt (keys A)) (hB : Srt lt (keys B)) (h : Mrg lt A B R) :
    R.length + ((keys A).filter (· ∈ keys B)).length = A.length + B.length := by
  have nA := srt_nodup O hA
  have nB := srt_nodup O hB
  have nR := srt_nodup O h.1
  have hn : (keys A ++ (keys B).filter (· ∉ keys A)).Nodup := by
    rw [List.nodup_append]
    refine ⟨nA, List.Nodup.sublist List.filter_sublist nB, fun x hx y hy e => ?_⟩
    subst e
    simp at hy
    exact hy.2 hx
  have hp := ((List.perm_ext_iff_of_nodup nR hn).2 fun x => by
    rw [mrg_keys h, List.mem_append, List.mem_filter]
    by_cases hx : x ∈ keys A <;> simp [hx]).length_eq
  have e1 := shared_len nA nB
  have e2 := parted_len (keys A) (keys B)
  rw [List.length_append] at hp
  have l1 : (keys R).length = R.length := by simp [keys]
  have l2 : (keys A).length = A.length := by simp [keys]
  have l3 : (keys B).length = B.length := by simp [keys]
  omega
end
end Go.Proofs.Qxb6625905a.Plain
