/-
  Seat b6625905a: THE WALKS of the three functions that look at lengths: each answers some bool and leaves the world as it was.
-/
import Derived.Test.Qxb6625905aLeaf
namespace Go.Proofs.Qxb6625905a
open Go.RowKit Plain

/-- It returns some bool. -/
def SomeBool (e : Ending) : Prop := ∃ r : Bool, e = .returned (.bool r)
theorem someBool (r : Bool) : SomeBool (.returned (.bool r)) := ⟨r, rfl⟩

set_option maxHeartbeats 1000000 in
theorem bytes5_any (a0 a1 a2 a3 : Option Addr) (c0 n1 c1 c2 n3 c3 : Nat) (xs ys : List ByteArray) (B : Nat) (w : World) (h0 : Rd S B w a0 xs) (h2 : Rd S B w a2 ys)
    (l0 : xs.length ≤ 9223372036854775807) (l1 : n1 ≤ 9223372036854775807) (l2 : ys.length ≤ 9223372036854775807) (l3 : n3 ≤ 9223372036854775807) :
    Calls Try.prog 5 #[.slice a0 xs.length c0, .slice a1 n1 c1, .slice a2 ys.length c2, .slice a3 n3 c3] w fun e w' => SomeBool e ∧ w' = w := by
  by_cases g0 : 1048576 < xs.length
  · go_enter Try.func5, Try.ntmps5
    go_wp2
    go_ret
    exact ⟨someBool _, rfl⟩
  · go_enter Try.func5, Try.ntmps5
    go_wp2
    go_loop [9, 10] (fun z i => ∃ (t : Int) (k : Nat), 0 ≤ t ∧ t ≤ 1048576 ∧ k ≤ xs.length ∧ z = .int .i64 t ∧ i = .int .i64 k) (fun _ i => xs.length - (intOf i).toNat)
    case atStart => exact ⟨_, 0, by omega, by omega, by omega, rfl, rfl⟩
    case round =>
      obtain ⟨t, k, ht0, ht1, hk, rfl, rfl⟩ := hrel
      by_cases hlt : k < xs.length
      · obtain ⟨b, off, rfl, _, hc⟩ := h0 (fun e => by rw [e] at hlt; simp at hlt)
        obtain ⟨X, hX⟩ : ∃ X, X = xs[k] := ⟨_, rfl⟩
        have cX : w.cell? ⟨b, off + k, none⟩ = some (.string X) := by rw [hX]; exact hc k hlt
        clear hX hc
        by_cases hx1 : 1048576 < X.size
        · go_wp2
          go_ret
          exact ⟨someBool _, rfl⟩
        by_cases hx2 : 1048576 < t + X.size
        · go_wp2
          go_ret
          exact ⟨someBool _, rfl⟩
        · go_wp2
          go_round
          case rel => exact ⟨t + X.size, k + 1, by omega, by omega, by omega, rfl, by go_num⟩
          case measure => simp [intOf]; omega
      · by_cases g1 : 1048576 < n1
        · go_wp2
          go_ret
          exact ⟨someBool _, rfl⟩
        by_cases g1' : 1048576 < t + n1
        · go_wp2
          go_ret
          exact ⟨someBool _, rfl⟩
        by_cases g2 : 1048576 < ys.length
        · go_wp2
          go_ret
          exact ⟨someBool _, rfl⟩
        by_cases g2' : 1048576 < t + n1 + ys.length
        · go_wp2
          go_ret
          exact ⟨someBool _, rfl⟩
        go_wp2
        go_loop [9, 11] (fun z i => ∃ (t : Int) (k : Nat), 0 ≤ t ∧ t ≤ 1048576 ∧ k ≤ ys.length ∧ z = .int .i64 t ∧ i = .int .i64 k) (fun _ i => ys.length - (intOf i).toNat)
        case atStart => exact ⟨_, 0, by omega, by omega, by omega, rfl, rfl⟩
        case round =>
          clear g1' g2'
          obtain ⟨t, k, ht0, ht1, hk, rfl, rfl⟩ := hrel
          by_cases hlt : k < ys.length
          · obtain ⟨b, off, rfl, _, hc⟩ := h2 (fun e => by rw [e] at hlt; simp at hlt)
            obtain ⟨X, hX⟩ : ∃ X, X = ys[k] := ⟨_, rfl⟩
            have cX : w.cell? ⟨b, off + k, none⟩ = some (.string X) := by rw [hX]; exact hc k hlt
            clear hX hc
            by_cases hx1 : 1048576 < X.size
            · go_wp2
              go_ret
              exact ⟨someBool _, rfl⟩
            by_cases hx2 : 1048576 < t + X.size
            · go_wp2
              go_ret
              exact ⟨someBool _, rfl⟩
            · go_wp2
              go_round
              case rel => exact ⟨t + X.size, k + 1, by omega, by omega, by omega, rfl, by go_num⟩
              case measure => simp [intOf]; omega
          · by_cases g3 : 1048576 < n3
            · go_wp2
              go_ret
              exact ⟨someBool _, rfl⟩
            go_wp2
            all_goals
              go_ret
              exact ⟨someBool _, rfl⟩

set_option maxHeartbeats 1000000 in
theorem bytes10_any (a0 a1 a2 a3 : Option Addr) (c0 n1 c1 c2 n3 c3 : Nat) (xs ys : List ByteArray) (B : Nat) (w : World) (h0 : Rd S B w a0 xs) (h2 : Rd S B w a2 ys)
    (l0 : xs.length ≤ 9223372036854775807) (l1 : n1 ≤ 9223372036854775807) (l2 : ys.length ≤ 9223372036854775807) (l3 : n3 ≤ 9223372036854775807) :
    Calls Try.prog 10 #[.slice a0 xs.length c0, .slice a1 n1 c1, .slice a2 ys.length c2, .slice a3 n3 c3] w fun e w' => SomeBool e ∧ w' = w := by
  by_cases g0 : 1048576 < xs.length
  · go_enter Try.func10, Try.ntmps10
    go_wp2
    go_ret
    exact ⟨someBool _, rfl⟩
  · go_enter Try.func10, Try.ntmps10
    go_wp2
    go_loop [9, 10] (fun z i => ∃ (t : Int) (k : Nat), 0 ≤ t ∧ t ≤ 1048576 ∧ k ≤ xs.length ∧ z = .int .i64 t ∧ i = .int .i64 k) (fun _ i => xs.length - (intOf i).toNat)
    case atStart => exact ⟨_, 0, by omega, by omega, by omega, rfl, rfl⟩
    case round =>
      obtain ⟨t, k, ht0, ht1, hk, rfl, rfl⟩ := hrel
      by_cases hlt : k < xs.length
      · obtain ⟨b, off, rfl, _, hc⟩ := h0 (fun e => by rw [e] at hlt; simp at hlt)
        obtain ⟨X, hX⟩ : ∃ X, X = xs[k] := ⟨_, rfl⟩
        have cX : w.cell? ⟨b, off + k, none⟩ = some (.string X) := by rw [hX]; exact hc k hlt
        clear hX hc
        by_cases hx1 : 1048576 < X.size
        · go_wp2
          go_ret
          exact ⟨someBool _, rfl⟩
        by_cases hx2 : 1048576 < t + X.size
        · go_wp2
          go_ret
          exact ⟨someBool _, rfl⟩
        · go_wp2
          go_round
          case rel => exact ⟨t + X.size, k + 1, by omega, by omega, by omega, rfl, by go_num⟩
          case measure => simp [intOf]; omega
      · by_cases g1 : 1048576 < n1
        · go_wp2
          go_ret
          exact ⟨someBool _, rfl⟩
        by_cases g1' : 1048576 < t + n1
        · go_wp2
          go_ret
          exact ⟨someBool _, rfl⟩
        by_cases g2 : 1048576 < ys.length
        · go_wp2
          go_ret
          exact ⟨someBool _, rfl⟩
        by_cases g2' : 1048576 < t + n1 + ys.length
        · go_wp2
          go_ret
          exact ⟨someBool _, rfl⟩
        go_wp2
        go_loop [9, 11] (fun z i => ∃ (t : Int) (k : Nat), 0 ≤ t ∧ t ≤ 1048576 ∧ k ≤ ys.length ∧ z = .int .i64 t ∧ i = .int .i64 k) (fun _ i => ys.length - (intOf i).toNat)
        case atStart => exact ⟨_, 0, by omega, by omega, by omega, rfl, rfl⟩
        case round =>
          clear g1' g2'
          obtain ⟨t, k, ht0, ht1, hk, rfl, rfl⟩ := hrel
          by_cases hlt : k < ys.length
          · obtain ⟨b, off, rfl, _, hc⟩ := h2 (fun e => by rw [e] at hlt; simp at hlt)
            obtain ⟨X, hX⟩ : ∃ X, X = ys[k] := ⟨_, rfl⟩
            have cX : w.cell? ⟨b, off + k, none⟩ = some (.string X) := by rw [hX]; exact hc k hlt
            clear hX hc
            by_cases hx1 : 1048576 < X.size
            · go_wp2
              go_ret
              exact ⟨someBool _, rfl⟩
            by_cases hx2 : 1048576 < t + X.size
            · go_wp2
              go_ret
              exact ⟨someBool _, rfl⟩
            · go_wp2
              go_round
              case rel => exact ⟨t + X.size, k + 1, by omega, by omega, by omega, rfl, by go_num⟩
              case measure => simp [intOf]; omega
          · by_cases g3 : 1048576 < n3
            · go_wp2
              go_ret
              exact ⟨someBool _, rfl⟩
            go_wp2
            all_goals
              go_ret
              exact ⟨someBool _, rfl⟩

set_option maxHeartbeats 1000000 in
theorem fit_any (a0 a1 a2 a3 : Option Addr) (c0 n1 c1 c2 n3 c3 : Nat) (xs ys : List ByteArray) (B : Nat) (w : World) (h0 : Rd S B w a0 xs) (h2 : Rd S B w a2 ys)
    (l0 : xs.length ≤ 65536) (l1 : n1 ≤ 65536) (l2 : ys.length ≤ 65536) (l3 : n3 ≤ 65536) :
    Calls Try.prog 6 #[.slice a0 xs.length c0, .slice a1 n1 c1, .slice a2 ys.length c2, .slice a3 n3 c3] w fun e w' => SomeBool e ∧ w' = w := by
  by_cases g0 : 1048576 < 16 * xs.length + 8 * n1 + 16 * ys.length + 8 * n3
  · go_enter Try.func6, Try.ntmps6
    go_wp2
    go_ret
    exact ⟨someBool _, rfl⟩
  · go_enter Try.func6, Try.ntmps6
    go_wp2
    go_loop [9, 10] (fun z i => ∃ (t : Int) (k : Nat), k ≤ xs.length ∧ z = .int .i64 t ∧ i = .int .i64 k) (fun _ i => xs.length - (intOf i).toNat)
    case atStart => exact ⟨_, 0, by omega, rfl, rfl⟩
    case round =>
      clear g0
      obtain ⟨t, k, hk, rfl, rfl⟩ := hrel
      by_cases hlt : k < xs.length
      · obtain ⟨b, off, rfl, _, hc⟩ := h0 (fun e => by rw [e] at hlt; simp at hlt)
        obtain ⟨X, hX⟩ : ∃ X, X = xs[k] := ⟨_, rfl⟩
        have cX : w.cell? ⟨b, off + k, none⟩ = some (.string X) := by rw [hX]; exact hc k hlt
        clear hX hc
        by_cases hx2 : 1048576 < wrap64 (t + X.size)
        · go_wp2
          go_ret
          exact ⟨someBool _, rfl⟩
        · go_wp2
          go_round
          case rel => exact ⟨_, k + 1, by omega, rfl, by go_num⟩
          case measure => simp [intOf]; omega
      · go_wp2
        go_loop [9, 11] (fun z i => ∃ (t : Int) (k : Nat), k ≤ ys.length ∧ z = .int .i64 t ∧ i = .int .i64 k) (fun _ i => ys.length - (intOf i).toNat)
        case atStart => exact ⟨_, 0, by omega, rfl, rfl⟩
        case round =>
          obtain ⟨t, k, hk, rfl, rfl⟩ := hrel
          by_cases hlt : k < ys.length
          · obtain ⟨b, off, rfl, _, hc⟩ := h2 (fun e => by rw [e] at hlt; simp at hlt)
            obtain ⟨X, hX⟩ : ∃ X, X = ys[k] := ⟨_, rfl⟩
            have cX : w.cell? ⟨b, off + k, none⟩ = some (.string X) := by rw [hX]; exact hc k hlt
            clear hX hc
            by_cases hx2 : 1048576 < wrap64 (t + X.size)
            · go_wp2
              go_ret
              exact ⟨someBool _, rfl⟩
            · go_wp2
              go_round
              case rel => exact ⟨_, k + 1, by omega, rfl, by go_num⟩
              case measure => simp [intOf]; omega
          · go_wp2
            go_ret
            exact ⟨someBool _, rfl⟩
end Go.Proofs.Qxb6625905a
