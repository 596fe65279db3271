/-
  Seat b6625905a: THE WALKS of the functions that only read.
-/
import Derived.Test.Qxb6625905aRows
import Derived.Test.Qxb6625905aPlain2
import Derived.WalkKit
import Derived.WalkSpells
import Derived.WalkLawsBesides
import Derived.Deep.QuietTactic
import Derived.BigQuiet
import Derived.Sort.Walk0
import Derived.Lib.Hide
namespace Go.Proofs.Qxb6625905a
open Go.RowKit Plain

theorem ret_bool {b c : Bool} (h : b = c) : Ending.returned (.bool b) = .returned (.bool c) := by rw [h]
theorem toL (z : ByteArray) : z.toList = z.data.toList := ByteArray.toList_eq z

/-- Go's '<' on strings. -/
def ltB (x y : ByteArray) : Bool := Op.bytesLess x.toList y.toList

theorem ltB_iff (x y : ByteArray) : ltB x y = true ↔ x.data.toList < y.data.toList := by
  unfold ltB
  rw [bytesLess_eq, toL, toL, decide_eq_true_iff]
theorem ba_inj {a b : ByteArray} (h : a.data.toList = b.data.toList) : a = b := WideShapes.bytes_inj h
theorem ltB_false (x y : ByteArray) : ltB x y = false ↔ ¬ x.data.toList < y.data.toList := by
  rw [← ltB_iff]
  simp
theorem loB : LO ltB where
  irrefl a := (ltB_false a a).2 (List.lt_irrefl _)
  trans a b c h1 h2 := (ltB_iff a c).2 (List.lt_trans ((ltB_iff a b).1 h1) ((ltB_iff b c).1 h2))
  tri a b h1 h2 := ba_inj (List.le_antisymm (List.not_lt.1 ((ltB_false b a).1 h2)) (List.not_lt.1 ((ltB_false a b).1 h1)))
theorem eqB (x y : ByteArray) : (x.toList == y.toList) = decide (x = y) := by
  rw [Bool.eq_iff_iff]
  simp only [beq_iff_eq, decide_eq_true_eq]
  exact ⟨fun h => ba_inj (by rw [toL, toL] at h; exact h), fun h => by rw [h]⟩

/-! ### What a slice that is only read holds -/
/-- The slice at address a, of xs.length cells, holds xs; its block's number is below B. -/
def Rd {β : Type} (f : β → Value) (B : Nat) (w : World) (a : Option Addr) (xs : List β) : Prop :=
  xs ≠ [] → ∃ b off, a = some ⟨b, off, none⟩ ∧ b < B ∧ ∀ j (h : j < xs.length), w.cell? ⟨b, off + j, none⟩ = some (f xs[j])
theorem Rd.below {β : Type} {f : β → Value} {B : Nat} {w w' : World} {a : Option Addr} {xs : List β} (h : Rd f B w a xs) (hb : Below B w w') : Rd f B w' a xs := fun hne => by
  obtain ⟨b, off, ha, hlt, hc⟩ := h hne
  exact ⟨b, off, ha, hlt, fun j hj => (hb.cell (p := ⟨b, off + j, none⟩) hlt).trans (hc j hj)⟩
theorem Rd.mono {β : Type} {f : β → Value} {B B' : Nat} {w : World} {a : Option Addr} {xs : List β} (h : Rd f B w a xs) (hB : B ≤ B') : Rd f B' w a xs := fun hne => by
  obtain ⟨b, off, ha, hlt, hc⟩ := h hne
  exact ⟨b, off, ha, by omega, hc⟩
theorem Rd.nil {β : Type} (f : β → Value) (B : Nat) (w : World) (a : Option Addr) : Rd f B w a [] := fun h => absurd rfl h
theorem below_drewN' (B : Nat) (w : World) (q : Nat) : Below B w (w.drewN q) := ⟨rfl, rfl, rfl, Nat.le_refl _, fun _ _ => rfl⟩
abbrev S : ByteArray → Value := Value.string
abbrev U : Int → Value := Value.int .u64

/-! ### zzStrictlySorted -/
set_option maxHeartbeats 400000 in
theorem sorted_few (a : Option Addr) (n cap : Nat) (hn : n ≤ 1) (w : World) :
    Calls Try.prog 7 #[.slice a n cap] w fun e w' => e = .returned (.bool true) ∧ w' = w := by
  go_enter Try.func7, Try.ntmps7
  go_wp2
  go_loop [3] (fun i => i = .int .i64 1) (fun _ => 0)
  case atStart => rfl
  case round =>
    obtain rfl := hrel
    go_wp2
    go_ret
    exact ⟨rfl, rfl⟩

theorem sorted_no {xs : List ByteArray} {k : Nat} {X Y : ByteArray} (h : k + 1 < xs.length) (hX : X = xs[k]) (hY : Y = xs[k + 1]) (hL : ltB X Y = false) : (false = true ↔ Adj ltB xs) := by
  refine ⟨fun h => (by cases h), fun hA => ?_⟩
  have := hA k h
  rw [← hX, ← hY, hL] at this
  exact this
theorem sorted_yes {xs : List ByteArray} {k : Nat} (hk : xs.length ≤ k + 1) (h : ∀ j (h : j + 1 < xs.length), j < k → ltB xs[j] xs[j + 1] = true) : (true = true ↔ Adj ltB xs) :=
  ⟨fun _ j hj => h j hj (by omega), fun _ => rfl⟩

set_option maxHeartbeats 400000 in
theorem sorted_some (b off n cap : Nat) (xs : List ByteArray) (hn : xs.length = n) (h63 : n ≤ 1048576) (w : World)
    (hc : ∀ j (h : j < xs.length), w.cell? ⟨b, off + j, none⟩ = some (.string xs[j])) (h1 : 1 ≤ n) :
    Calls Try.prog 7 #[.slice (some ⟨b, off, none⟩) n cap] w fun e w' => (∃ r : Bool, e = .returned (.bool r) ∧ (r = true ↔ Adj ltB xs)) ∧ ∃ q, w' = w.drewN q := by
  go_enter Try.func7, Try.ntmps7
  go_wp2
  go_loopw [3] (fun i wr => ∃ k q : Nat, k + 1 ≤ n ∧ i = .int .i64 ((k : Int) + 1) ∧ wr = w.drewN q ∧ Hid (∀ j (h : j + 1 < xs.length), j < k → ltB xs[j] xs[j + 1] = true)) (fun i _ => n - (intOf i).toNat)
  case atStart => exact ⟨0, 0, by omega, rfl, rfl, fun j _ h => absurd h (by omega)⟩
  case round =>
    obtain ⟨k, q, hk, rfl, rfl, hadj⟩ := hrel
    by_cases hlt : k + 1 < n
    · obtain ⟨X, hX⟩ : ∃ X, X = xs[k]'(by omega) := ⟨_, rfl⟩
      obtain ⟨Y, hY⟩ : ∃ Y, Y = xs[k + 1]'(by omega) := ⟨_, rfl⟩
      have c1 : w.cell? ⟨b, off + k, none⟩ = some (.string X) := by rw [hX]; exact hc k (by omega)
      have c2 : w.cell? ⟨b, off + (k + 1), none⟩ = some (.string Y) := by rw [hY]; exact hc (k + 1) (by omega)
      have HX := Lib.hid hX
      have HY := Lib.hid hY
      clear hX hY hc
      have HL : Hid (ltB X Y = Op.bytesLess X.toList Y.toList) := rfl
      cases hxy : Op.bytesLess X.toList Y.toList
      · go_wp2
        go_quiet (fail)
        go_wp2
        go_ret
        exact ⟨⟨false, rfl, sorted_no (by omega) HX.out HY.out (HL.out.trans hxy)⟩, q + nq, by simp [World.drewN, Nat.add_assoc]⟩
      · go_wp2
        go_quiet (fail)
        go_wp2
        go_roundw
        case rel =>
          refine ⟨k + 1, q + nq, by omega, by go_num, rfl, fun j hj hjk => ?_⟩
          by_cases h : j < k
          · exact hadj.out j hj h
          · obtain rfl : j = k := by omega
            rw [← HX.out, ← HY.out, HL.out, hxy]
        case measure => simp [intOf]; omega
    · go_wp2
      go_ret
      exact ⟨⟨true, rfl, sorted_yes (by omega) hadj.out⟩, q, rfl⟩

/-- zzStrictlySorted. -/
theorem sorted_any (B : Nat) (a : Option Addr) (cap : Nat) (xs : List ByteArray) (h63 : xs.length ≤ 1048576) (w : World) (h : Rd S B w a xs) :
    Calls Try.prog 7 #[.slice a xs.length cap] w fun e w' => ∃ r : Bool, e = .returned (.bool r) ∧ Hid (r = true ↔ Adj ltB xs) ∧ ∃ q, w' = w.drewN q := by
  by_cases hx : xs = []
  · subst hx
    refine (sorted_few a 0 cap (by omega) w).mono ?_
    rintro e w' ⟨rfl, rfl⟩
    exact ⟨true, rfl, ⟨fun _ j hj => absurd hj (by simp), fun _ => rfl⟩, 0, rfl⟩
  · obtain ⟨b, off, rfl, _, hc⟩ := h hx
    refine (sorted_some b off xs.length cap xs rfl h63 w hc (List.length_pos_iff.2 hx)).mono ?_
    rintro e w' ⟨⟨r, rfl, hr⟩, hq⟩
    exact ⟨r, rfl, hr, hq⟩

/-! ### zzFind -/
/-- r is the place of s in xs, or -1. -/
def Fnd (xs : List ByteArray) (s : ByteArray) (r : Int) : Prop := (r = -1 ∧ s ∉ xs) ∨ ∃ k : Nat, r = k ∧ xs[k]? = some s

/-- The two halves' facts. -/
def Parts (xs : List ByteArray) (s : ByteArray) (lo hi : Nat) : Prop := (∀ j (h : j < xs.length), j < lo → ltB xs[j] s = true) ∧ (∀ j (h : j < xs.length), hi ≤ j → ltB xs[j] s = false)
theorem find_up {xs : List ByteArray} {s X : ByteArray} {lo hi m : Nat} (hs : Srt ltB xs) (hm : m < xs.length) (hX : X = xs[m]) (hl : ltB X s = true) (h : Parts xs s lo hi) : Parts xs s (m + 1) hi := by
  refine ⟨fun j hj hjm => ?_, h.2⟩
  by_cases e : j = m
  · subst e; rw [← hX]; exact hl
  · exact loB.trans _ _ _ (srt_at hs hj hm (by omega)) (hX ▸ hl)
theorem find_down {xs : List ByteArray} {s X : ByteArray} {lo hi m : Nat} (hs : Srt ltB xs) (hm : m < xs.length) (hX : X = xs[m]) (hl : ltB X s = false) (h : Parts xs s lo hi) : Parts xs s lo m := by
  refine ⟨h.1, fun j hj hjm => ?_⟩
  by_cases e : j = m
  · subst e; rw [← hX]; exact hl
  · cases c : ltB xs[j] s with
    | false => rfl
    | true =>
      have := loB.trans _ _ _ (srt_at hs hm hj (by omega)) c
      rw [← hX, hl] at this
      cases this
theorem find_none {xs : List ByteArray} {s : ByteArray} {lo : Nat} (hs : Srt ltB xs) (hne : ∀ h : lo < xs.length, xs[lo] ≠ s) (h : Parts xs s lo lo) : s ∉ xs := by
  intro hm
  obtain ⟨j, hj, rfl⟩ := List.getElem_of_mem hm
  rcases Nat.lt_trichotomy j lo with c | c | c
  · have := h.1 j hj c
    rw [loB.irrefl] at this
    cases this
  · subst c
    exact hne hj rfl
  · have h1 := srt_at hs (show lo < xs.length by omega) hj c
    have h2 := h.2 lo (by omega) (Nat.le_refl _)
    rw [h1] at h2
    cases h2

set_option maxHeartbeats 400000 in
theorem find_some (b off n cap : Nat) (xs : List ByteArray) (hn : xs.length = n) (h63 : n ≤ 1048576) (hsrt : Hid (Srt ltB xs)) (s : ByteArray) (w : World)
    (hc : ∀ j (h : j < xs.length), w.cell? ⟨b, off + j, none⟩ = some (.string xs[j])) :
    Calls Try.prog 9 #[.slice (some ⟨b, off, none⟩) n cap, .string s] w fun e w' => (∃ r : Int, e = .returned (.int .i64 r) ∧ Fnd xs s r) ∧ w' = w := by
  go_enter Try.func9, Try.ntmps9
  go_wp2
  go_loop [5, 6] (fun l h => ∃ lo hi : Nat, lo ≤ hi ∧ hi ≤ n ∧ l = .int .i64 lo ∧ h = .int .i64 hi ∧ Hid (Parts xs s lo hi)) (fun l h => (intOf h - intOf l).toNat)
  case atStart => exact ⟨0, n, by omega, by omega, rfl, rfl, fun j _ h => absurd h (by omega), fun j hj h => absurd hj (by omega)⟩
  case round =>
    obtain ⟨lo, hi, h1, h2, rfl, rfl, hinv⟩ := hrel
    by_cases hlt : lo < hi
    · have hM : lo + (hi - lo) / 2 < xs.length := by omega
      obtain ⟨X, hX⟩ : ∃ X, X = xs[lo + (hi - lo) / 2] := ⟨_, rfl⟩
      have c1 : w.cell? ⟨b, off + (lo + (hi - lo) / 2), none⟩ = some (.string X) := by rw [hX]; exact hc _ hM
      have HX := Lib.hid hX
      have HL : Hid (ltB X s = Op.bytesLess X.toList s.toList) := rfl
      clear hX hc
      cases hxs : Op.bytesLess X.toList s.toList
      · go_wp2
        go_round
        case rel => exact ⟨lo, lo + (hi - lo) / 2, by omega, by omega, rfl, by go_num, find_down hsrt.out hM HX.out (HL.out.trans hxs) hinv.out⟩
        case measure => simp [intOf]; omega
      · go_wp2
        go_round
        case rel => exact ⟨lo + (hi - lo) / 2 + 1, hi, by omega, by omega, by go_num, rfl, find_up hsrt.out hM HX.out (HL.out.trans hxs) hinv.out⟩
        case measure => simp [intOf]; omega
    · have hlh : lo = hi := by omega
      subst hlh
      by_cases hln : lo < n
      · have hM : lo < xs.length := by omega
        obtain ⟨X, hX⟩ : ∃ X, X = xs[lo] := ⟨_, rfl⟩
        have c1 : w.cell? ⟨b, off + lo, none⟩ = some (.string X) := by rw [hX]; exact hc _ hM
        have HX := Lib.hid hX
        clear hX hc
        by_cases hXs : X = s
        · have he : (X.toList == s.toList) = true := by rw [hXs]; simp
          have HE := Lib.hid hXs
          clear hXs
          go_wp2
          go_ret
          exact ⟨⟨(lo : Int), rfl, Or.inr ⟨lo, rfl, by rw [List.getElem?_eq_getElem hM, ← HX.out, HE.out]⟩⟩, rfl⟩
        · have he : (X.toList == s.toList) = false := by rw [eqB]; simpa using hXs
          have HE := Lib.hid hXs
          clear hXs
          go_wp2
          go_ret
          exact ⟨⟨-1, rfl, Or.inl ⟨rfl, find_none hsrt.out (fun h => by rw [← HX.out]; exact HE.out) hinv.out⟩⟩, rfl⟩
      · clear hc
        go_wp2
        go_ret
        exact ⟨⟨-1, rfl, Or.inl ⟨rfl, find_none hsrt.out (fun h => absurd h (by omega)) hinv.out⟩⟩, rfl⟩

set_option maxHeartbeats 400000 in
theorem find_empty (a : Option Addr) (cap : Nat) (s : ByteArray) (w : World) :
    Calls Try.prog 9 #[.slice a 0 cap, .string s] w fun e w' => e = .returned (.int .i64 (-1)) ∧ w' = w := by
  go_enter Try.func9, Try.ntmps9
  go_wp2
  go_loop [5, 6] (fun l h => l = .int .i64 0 ∧ h = .int .i64 0) (fun _ _ => 0)
  case atStart => exact ⟨rfl, rfl⟩
  case round =>
    obtain ⟨rfl, rfl⟩ := hrel
    go_wp2
    go_ret
    exact ⟨rfl, rfl⟩

/-- zzFind, in a strictly sorted list. -/
theorem find_any (B : Nat) (a : Option Addr) (cap : Nat) (xs : List ByteArray) (h63 : xs.length ≤ 1048576) (hsrt : Srt ltB xs) (s : ByteArray) (w : World) (h : Rd S B w a xs) :
    Calls Try.prog 9 #[.slice a xs.length cap, .string s] w fun e w' => ∃ r : Int, e = .returned (.int .i64 r) ∧ Hid (Fnd xs s r) ∧ w' = w := by
  by_cases hx : xs = []
  · subst hx
    refine (find_empty a cap s w).mono ?_
    rintro e w' ⟨rfl, rfl⟩
    exact ⟨-1, rfl, Or.inl ⟨rfl, by simp⟩, rfl⟩
  · obtain ⟨b, off, rfl, _, hc⟩ := h hx
    refine (find_some b off xs.length cap xs rfl h63 hsrt s w hc).mono ?_
    rintro e w' ⟨⟨r, rfl, hr⟩, hq⟩
    exact ⟨r, rfl, hr, hq⟩
end Go.Proofs.Qxb6625905a
