/-
  The byte-counting guards: each returns some bool and leaves the world as it was.
-/
import Derived.Test.Qxb6600067aBase
namespace Go.Proofs.Qxb6600067a
open Go.RowKit

/-- The call returned a bool, whichever. -/
def SomeBool (e : Ending) : Prop := ∃ b, e = .returned (.bool b)
theorem someBool (b : Bool) : SomeBool (.returned (.bool b)) := ⟨b, rfl⟩

set_option maxHeartbeats 1000000 in
theorem zz24 (a0 : Option Addr) (n0 c0 : Nat) (s0 : List ByteArray) (a1 : Option Addr) (n1 c1 : Nat) (s1 : List ByteArray) (a2 : Option Addr) (n2 c2 : Nat) (s2 : List ByteArray) (w : World) (h0 : Strs w a0 n0 c0 s0) (h1 : Strs w a1 n1 c1 s1) (h2 : Strs w a2 n2 c2 s2) :
    Calls Try.prog 24 #[.slice a0 n0 c0, .slice a1 n1 c1, .slice a2 n2 c2] w fun e w' => SomeBool e ∧ w' = w := by
  have m0 := h0.max
  unfold maxLen at m0
  have m1 := h1.max
  unfold maxLen at m1
  have m2 := h2.max
  unfold maxLen at m2
  go_enter Try.func24, Try.ntmps24
  go_wp2
  · go_ret
    exact ⟨someBool _, rfl⟩
  go_loop [7, 8] (fun t i => ∃ (z : Int) (k : Nat), k ≤ n0 ∧ i = .int .i64 k ∧ t = .int .i64 z) (fun _ i => n0 - (intOf i).toNat)
  case atStart => exact ⟨_, 0, Nat.zero_le _, rfl, rfl⟩
  case round =>
    obtain ⟨z0, k0, hk0, rfl, rfl⟩ := hrel
    by_cases hlt0 : k0 < n0
    · have x1 := h0.ix k0 hlt0
      have x2 := h0.at hlt0
      go_wp2
      · go_ret
        exact ⟨someBool _, rfl⟩
      · go_ret
        exact ⟨someBool _, rfl⟩
      · go_round
        case rel => exact ⟨_, k0 + 1, by omega, by go_num, rfl⟩
        case measure => simp [intOf]; omega
    go_wp2
    · go_ret
      exact ⟨someBool _, rfl⟩
    · go_ret
      exact ⟨someBool _, rfl⟩
    go_loop [7, 9] (fun t i => ∃ (z : Int) (k : Nat), k ≤ n1 ∧ i = .int .i64 k ∧ t = .int .i64 z) (fun _ i => n1 - (intOf i).toNat)
    case atStart => exact ⟨_, 0, Nat.zero_le _, rfl, rfl⟩
    case round =>
      obtain ⟨z1, k1, hk1, rfl, rfl⟩ := hrel
      by_cases hlt1 : k1 < n1
      · have x1 := h1.ix k1 hlt1
        have x2 := h1.at hlt1
        go_wp2
        · go_ret
          exact ⟨someBool _, rfl⟩
        · go_ret
          exact ⟨someBool _, rfl⟩
        · go_round
          case rel => exact ⟨_, k1 + 1, by omega, by go_num, rfl⟩
          case measure => simp [intOf]; omega
      go_wp2
      · go_ret
        exact ⟨someBool _, rfl⟩
      · go_ret
        exact ⟨someBool _, rfl⟩
      go_loop [7, 10] (fun t i => ∃ (z : Int) (k : Nat), k ≤ n2 ∧ i = .int .i64 k ∧ t = .int .i64 z) (fun _ i => n2 - (intOf i).toNat)
      case atStart => exact ⟨_, 0, Nat.zero_le _, rfl, rfl⟩
      case round =>
        obtain ⟨z2, k2, hk2, rfl, rfl⟩ := hrel
        by_cases hlt2 : k2 < n2
        · have x1 := h2.ix k2 hlt2
          have x2 := h2.at hlt2
          go_wp2
          · go_ret
            exact ⟨someBool _, rfl⟩
          · go_ret
            exact ⟨someBool _, rfl⟩
          · go_round
            case rel => exact ⟨_, k2 + 1, by omega, by go_num, rfl⟩
            case measure => simp [intOf]; omega
        go_wp2
        go_ret
        exact ⟨someBool _, rfl⟩

set_option maxHeartbeats 1000000 in
theorem zz22 (a0 : Option Addr) (n0 c0 : Nat) (s0 : List ByteArray) (a1 : Option Addr) (n1 c1 : Nat) (s1 : List ByteArray) (a2 : Option Addr) (n2 c2 : Nat) (s2 : List ByteArray) (w : World) (h0 : Strs w a0 n0 c0 s0) (h1 : Strs w a1 n1 c1 s1) (h2 : Strs w a2 n2 c2 s2) :
    Calls Try.prog 22 #[.slice a0 n0 c0, .slice a1 n1 c1, .slice a2 n2 c2] w fun e w' => SomeBool e ∧ w' = w := by
  have m0 := h0.max
  unfold maxLen at m0
  have m1 := h1.max
  unfold maxLen at m1
  have m2 := h2.max
  unfold maxLen at m2
  go_enter Try.func22, Try.ntmps22
  go_wp2
  · go_ret
    exact ⟨someBool _, rfl⟩
  go_loop [7, 8] (fun t i => ∃ (z : Int) (k : Nat), k ≤ n0 ∧ i = .int .i64 k ∧ t = .int .i64 z) (fun _ i => n0 - (intOf i).toNat)
  case atStart => exact ⟨_, 0, Nat.zero_le _, rfl, rfl⟩
  case round =>
    obtain ⟨z0, k0, hk0, rfl, rfl⟩ := hrel
    by_cases hlt0 : k0 < n0
    · have x1 := h0.ix k0 hlt0
      have x2 := h0.at hlt0
      go_wp2
      · go_ret
        exact ⟨someBool _, rfl⟩
      · go_ret
        exact ⟨someBool _, rfl⟩
      · go_round
        case rel => exact ⟨_, k0 + 1, by omega, by go_num, rfl⟩
        case measure => simp [intOf]; omega
    go_wp2
    · go_ret
      exact ⟨someBool _, rfl⟩
    · go_ret
      exact ⟨someBool _, rfl⟩
    go_loop [7, 9] (fun t i => ∃ (z : Int) (k : Nat), k ≤ n1 ∧ i = .int .i64 k ∧ t = .int .i64 z) (fun _ i => n1 - (intOf i).toNat)
    case atStart => exact ⟨_, 0, Nat.zero_le _, rfl, rfl⟩
    case round =>
      obtain ⟨z1, k1, hk1, rfl, rfl⟩ := hrel
      by_cases hlt1 : k1 < n1
      · have x1 := h1.ix k1 hlt1
        have x2 := h1.at hlt1
        go_wp2
        · go_ret
          exact ⟨someBool _, rfl⟩
        · go_ret
          exact ⟨someBool _, rfl⟩
        · go_round
          case rel => exact ⟨_, k1 + 1, by omega, by go_num, rfl⟩
          case measure => simp [intOf]; omega
      go_wp2
      · go_ret
        exact ⟨someBool _, rfl⟩
      · go_ret
        exact ⟨someBool _, rfl⟩
      go_loop [7, 10] (fun t i => ∃ (z : Int) (k : Nat), k ≤ n2 ∧ i = .int .i64 k ∧ t = .int .i64 z) (fun _ i => n2 - (intOf i).toNat)
      case atStart => exact ⟨_, 0, Nat.zero_le _, rfl, rfl⟩
      case round =>
        obtain ⟨z2, k2, hk2, rfl, rfl⟩ := hrel
        by_cases hlt2 : k2 < n2
        · have x1 := h2.ix k2 hlt2
          have x2 := h2.at hlt2
          go_wp2
          · go_ret
            exact ⟨someBool _, rfl⟩
          · go_ret
            exact ⟨someBool _, rfl⟩
          · go_round
            case rel => exact ⟨_, k2 + 1, by omega, by go_num, rfl⟩
            case measure => simp [intOf]; omega
        go_wp2
        go_ret
        exact ⟨someBool _, rfl⟩

set_option maxHeartbeats 1000000 in
theorem zz11 (a0 : Option Addr) (n0 c0 : Nat) (s0 : List ByteArray) (a1 : Option Addr) (n1 c1 : Nat) (s1 : List ByteArray) (w : World) (h0 : Strs w a0 n0 c0 s0) (h1 : Strs w a1 n1 c1 s1) :
    Calls Try.prog 11 #[.slice a0 n0 c0, .slice a1 n1 c1] w fun e w' => SomeBool e ∧ w' = w := by
  have m0 := h0.max
  unfold maxLen at m0
  have m1 := h1.max
  unfold maxLen at m1
  go_enter Try.func11, Try.ntmps11
  go_wp2
  · go_ret
    exact ⟨someBool _, rfl⟩
  go_loop [5, 6] (fun t i => ∃ (z : Int) (k : Nat), k ≤ n0 ∧ i = .int .i64 k ∧ t = .int .i64 z) (fun _ i => n0 - (intOf i).toNat)
  case atStart => exact ⟨_, 0, Nat.zero_le _, rfl, rfl⟩
  case round =>
    obtain ⟨z0, k0, hk0, rfl, rfl⟩ := hrel
    by_cases hlt0 : k0 < n0
    · have x1 := h0.ix k0 hlt0
      have x2 := h0.at hlt0
      go_wp2
      · go_ret
        exact ⟨someBool _, rfl⟩
      · go_ret
        exact ⟨someBool _, rfl⟩
      · go_round
        case rel => exact ⟨_, k0 + 1, by omega, by go_num, rfl⟩
        case measure => simp [intOf]; omega
    go_wp2
    · go_ret
      exact ⟨someBool _, rfl⟩
    · go_ret
      exact ⟨someBool _, rfl⟩
    go_loop [5, 7] (fun t i => ∃ (z : Int) (k : Nat), k ≤ n1 ∧ i = .int .i64 k ∧ t = .int .i64 z) (fun _ i => n1 - (intOf i).toNat)
    case atStart => exact ⟨_, 0, Nat.zero_le _, rfl, rfl⟩
    case round =>
      obtain ⟨z1, k1, hk1, rfl, rfl⟩ := hrel
      by_cases hlt1 : k1 < n1
      · have x1 := h1.ix k1 hlt1
        have x2 := h1.at hlt1
        go_wp2
        · go_ret
          exact ⟨someBool _, rfl⟩
        · go_ret
          exact ⟨someBool _, rfl⟩
        · go_round
          case rel => exact ⟨_, k1 + 1, by omega, by go_num, rfl⟩
          case measure => simp [intOf]; omega
      go_wp2
      go_ret
      exact ⟨someBool _, rfl⟩

set_option maxHeartbeats 1000000 in
theorem zz21 (a0 : Option Addr) (n0 c0 : Nat) (s0 : List ByteArray) (a1 : Option Addr) (n1 c1 : Nat) (s1 : List ByteArray) (w : World) (h0 : Strs w a0 n0 c0 s0) (h1 : Strs w a1 n1 c1 s1) :
    Calls Try.prog 21 #[.slice a0 n0 c0, .slice a1 n1 c1] w fun e w' => SomeBool e ∧ w' = w := by
  have m0 := h0.max
  unfold maxLen at m0
  have m1 := h1.max
  unfold maxLen at m1
  go_enter Try.func21, Try.ntmps21
  go_wp2
  · go_ret
    exact ⟨someBool _, rfl⟩
  go_loop [5, 6] (fun t i => ∃ (z : Int) (k : Nat), k ≤ n0 ∧ i = .int .i64 k ∧ t = .int .i64 z) (fun _ i => n0 - (intOf i).toNat)
  case atStart => exact ⟨_, 0, Nat.zero_le _, rfl, rfl⟩
  case round =>
    obtain ⟨z0, k0, hk0, rfl, rfl⟩ := hrel
    by_cases hlt0 : k0 < n0
    · have x1 := h0.ix k0 hlt0
      have x2 := h0.at hlt0
      go_wp2
      · go_ret
        exact ⟨someBool _, rfl⟩
      · go_ret
        exact ⟨someBool _, rfl⟩
      · go_round
        case rel => exact ⟨_, k0 + 1, by omega, by go_num, rfl⟩
        case measure => simp [intOf]; omega
    go_wp2
    · go_ret
      exact ⟨someBool _, rfl⟩
    · go_ret
      exact ⟨someBool _, rfl⟩
    go_loop [5, 7] (fun t i => ∃ (z : Int) (k : Nat), k ≤ n1 ∧ i = .int .i64 k ∧ t = .int .i64 z) (fun _ i => n1 - (intOf i).toNat)
    case atStart => exact ⟨_, 0, Nat.zero_le _, rfl, rfl⟩
    case round =>
      obtain ⟨z1, k1, hk1, rfl, rfl⟩ := hrel
      by_cases hlt1 : k1 < n1
      · have x1 := h1.ix k1 hlt1
        have x2 := h1.at hlt1
        go_wp2
        · go_ret
          exact ⟨someBool _, rfl⟩
        · go_ret
          exact ⟨someBool _, rfl⟩
        · go_round
          case rel => exact ⟨_, k1 + 1, by omega, by go_num, rfl⟩
          case measure => simp [intOf]; omega
      go_wp2
      go_ret
      exact ⟨someBool _, rfl⟩

end Go.Proofs.Qxb6600067a
