/-
  punyAdapt, and the law's own power form.
-/
import Derived.Test.Qxb6600667aProg
import Derived.WalkKit
import Derived.WalkSpells
import Derived.WalkLawsBesides
import Derived.Deep.LoopGhost
import Derived.KernelRfl
import Derived.OpenShut
namespace Go.Proofs.Qxb6600667a
open Go.RowKit

theorem hide {p : Prop} (h : p) : Hid p := h

/-! ### plain numbers -/
def pw (m : Nat) : Nat := 35 ^ m
theorem pw_succ (m : Nat) : pw (m + 1) = 35 * pw m := by unfold pw; rw [Nat.pow_succ, Nat.mul_comm]
theorem pw_pos (m : Nat) : 0 < pw m := Nat.pow_pos (by decide)
/-- What is left of D after m divisions by 35. -/
def cut (D m : Nat) : Nat := D / pw m
theorem cut_zero (D : Nat) : cut D 0 = D := by simp [cut, pw]
theorem cut_succ (D m : Nat) : cut D (m + 1) = cut D m / 35 := by
  unfold cut
  rw [pw_succ, Nat.mul_comm, Nat.div_div_eq_div_mul]
theorem cut_le (D m : Nat) : cut D m ≤ D := Nat.div_le_self _ _

/-- m is the first place at which what is left is below 456. -/
def Stops (D m : Nat) : Prop := cut D m < 456 ∧ ∀ j, j < m → 456 ≤ cut D j
theorem stops_eq {D m n : Nat} (h : Stops D m) (h' : Stops D n) : m = n := by
  rcases Nat.lt_trichotomy m n with hl | hl | hl
  · have := h'.2 m hl; have := h.1; omega
  · exact hl
  · have := h.2 n hl; have := h'.1; omega

/-- The law's own test. -/
theorem pw_le_iff (D m : Nat) : pw m ≤ D / 456 ↔ 456 ≤ cut D m := by
  unfold cut
  rw [Nat.le_div_iff_mul_le (by decide), Nat.le_div_iff_mul_le (pw_pos m), Nat.mul_comm]

def bias (D m : Nat) : Int := 36 * (m : Int) + 36 * (cut D m : Int) / ((cut D m : Int) + 38)

/-- How the first step scales the number. -/
def scaled (x l : Nat) (first : Bool) : Nat := (if first = true then x / 700 else x / 2) + (if first = true then x / 700 else x / 2) / l

theorem scaled_lt {x l : Nat} (h : x ≤ 9223372036854775807) (first : Bool) : scaled x l first ≤ 9223372036854775806 := by
  unfold scaled
  cases first
  · simp only [Bool.false_eq_true, if_false]
    have := Nat.div_le_self (x / 2) l
    omega
  · simp only [if_true]
    have := Nat.div_le_self (x / 700) l
    omega

theorem few {D m : Nat} (hD : D ≤ 9223372036854775806) (h : ∀ j, j < m → 456 ≤ cut D j) : m ≤ 13 := by
  rcases Nat.lt_or_ge 13 m with hm | hm
  · have := h 13 hm
    have h0 : cut D 13 = 0 := by
      unfold cut pw
      exact Nat.div_eq_of_lt (by omega)
    omega
  · exact hm

theorem cut_int (D m : Nat) : ((cut D (m + 1) : Nat) : Int) = (cut D m : Int) / 35 := by rw [cut_succ]; simp

theorem scaled_false (x l : Nat) : ((scaled x l false : Nat) : Int) = (x : Int) / 2 + (x : Int) / 2 / (l : Int) := by simp [scaled]
theorem scaled_true (x l : Nat) : ((scaled x l true : Nat) : Int) = (x : Int) / 700 + (x : Int) / 700 / (l : Int) := by simp [scaled]

theorem div_bd (y l : Nat) : (0 : Int) ≤ (y : Int) / (l : Int) ∧ (y : Int) / (l : Int) ≤ (y : Int) := by
  have := Nat.div_le_self y l
  refine ⟨?_, ?_⟩
  · rw [← Int.natCast_ediv]; exact Int.natCast_nonneg _
  · rw [← Int.natCast_ediv]; exact Int.ofNat_le.2 this

theorem div_bd2 (x l : Nat) : (0 : Int) ≤ (x : Int) / 2 / (l : Int) ∧ (x : Int) / 2 / (l : Int) ≤ (x : Int) / 2 := by
  have := div_bd (x / 2) l
  simpa using this
theorem div_bd700 (x l : Nat) : (0 : Int) ≤ (x : Int) / 700 / (l : Int) ∧ (x : Int) / 700 / (l : Int) ≤ (x : Int) / 700 := by
  have := div_bd (x / 700) l
  simpa using this

theorem frac_bd {c : Nat} (h : c < 456) : (0 : Int) ≤ 36 * (c : Int) / ((c : Int) + 38) ∧ 36 * (c : Int) / ((c : Int) + 38) ≤ 36 := by
  have e : 36 * (c : Int) / ((c : Int) + 38) = ((36 * c / (c + 38) : Nat) : Int) := by simp
  rw [e]
  refine ⟨Int.natCast_nonneg _, ?_⟩
  have : 36 * c / (c + 38) ≤ 36 := by
    rw [Nat.div_le_iff_le_mul_add_pred (by omega)]
    omega
  omega

theorem retI {a b : Int} (h : a = b) : Ending.returned (.int .i64 a) = .returned (.int .i64 b) := by rw [h]

set_option maxHeartbeats 400000 in
theorem adapt_any (x l : Nat) (first : Bool) (w : World) (hx : x ≤ 9223372036854775807) (hl : 1 ≤ l) (hl2 : l ≤ 9223372036854775807) :
    Calls Try.prog 17 #[.int .i64 (x : Int), .int .i64 (l : Int), .bool first] w fun e w' => ∃ m, e = .returned (.int .i64 (bias (scaled x l first) m)) ∧ Stops (scaled x l first) m ∧ w' = w := by
  have hD := scaled_lt (l := l) hx first
  have b2 := div_bd2 x l
  have b7 := div_bd700 x l
  have HF := hide (scaled_false x l)
  have HT := hide (scaled_true x l)
  cases first
  case' false => clear HT b7
  case' true => clear HF b2
  all_goals
    generalize hs : scaled x l _ = D at *
    clear hs
    go_enter Try.func17, Try.ntmps17
    go_wp2
    go_loopg [0, 7] D (fun gk dv kv wr => ∃ m : Nat, wr = w ∧ gk = cut D m ∧ dv = .int .i64 (cut D m : Int) ∧ kv = .int .i64 (36 * (m : Int)) ∧ m ≤ 13 ∧ Hid (∀ j, j < m → 456 ≤ cut D j))
    case atStart => 
      refine ⟨0, rfl, (cut_zero D).symm, ?_, by simp, by omega, fun j hj => by omega⟩
      rw [cut_zero]
      first | rw [HF.out] | rw [HT.out]
    case round =>
      obtain ⟨m, rfl, rfl, rfl, rfl, hm, HJ⟩ := hrel
      have hcd := cut_le D m
      by_cases hlt : 455 < cut D m
      · have hall : ∀ j, j < m + 1 → 456 ≤ cut D j := fun j hj => by
          rcases Nat.lt_succ_iff_lt_or_eq.1 hj with h | h
          · exact HJ.out j h
          · subst h; omega
        have hm' := few hD hall
        have HA := hide hall
        clear hall
        go_wp2
        go_roundg (cut D (m + 1))
        case measure => rw [cut_succ]; omega
        case rel => exact ⟨m + 1, rfl, rfl, by rw [cut_int], by go_num, hm', HA⟩
      · have HST : Hid (Stops D m) := hide ⟨by omega, HJ.out⟩
        have hfr := frac_bd HST.out.1
        go_wp2
        go_ret
        exact ⟨m, rfl, HST.out, rfl⟩

set_option maxHeartbeats 400000 in
theorem zzadapt_any (x l : Nat) (first : Bool) (w : World) (hx : x ≤ 9223372036854775807) (hl : 1 ≤ l) (hl2 : l ≤ 9223372036854775807) :
    Calls Try.prog 9 #[.int .i64 (x : Int), .int .i64 (l : Int), .bool first] w fun e w' => ∃ m, e = .returned (.int .i64 (bias (scaled x l first) m)) ∧ Stops (scaled x l first) m ∧ w' = w := by
  go_enter Try.func9, Try.ntmps9
  go_wp2_with fail
  refine (adapt_any x l first _ hx hl hl2).mono ?_
  rintro e w1 ⟨m, rfl, hm, rfl⟩
  have HM := hide hm
  clear hm
  go_wp2
  go_ret
  exact ⟨m, rfl, HM.out, rfl⟩

set_option maxHeartbeats 400000 in
theorem law_any (x l : Nat) (first : Bool) (w : World) (hx : x ≤ 9223372036854775807) (hl : 1 ≤ l) (hl2 : l ≤ 9223372036854775807) :
    Calls Try.prog 3 #[.int .i64 (x : Int), .int .i64 (l : Int), .bool first] w fun e w' => e = .returned (.bool true) ∧ w' = w := by
  have hD := scaled_lt (l := l) hx first
  have b2 := div_bd2 x l
  have b7 := div_bd700 x l
  have HC := hide (fun w => zzadapt_any x l first w hx hl hl2)
  have HF := hide (scaled_false x l)
  have HT := hide (scaled_true x l)
  have dx : decide ((x : Int) < 0) = false := decide_eq_false (by omega)
  cases first
  case' false => clear HT b7
  case' true => clear HF b2
  all_goals
    generalize hs : scaled x l _ = D at *
    clear hs
    go_enter Try.func3, Try.ntmps3
    go_wp2
    first | rw [← HF.out] | rw [← HT.out]
    go_loopg [9, 10] (D / 456 + 1 - pw 0) (fun gk mv pv wr => ∃ m : Nat, wr = w ∧ gk = D / 456 + 1 - pw m ∧ mv = .int .i64 (m : Int) ∧ pv = .int .i64 (pw m : Int) ∧ m ≤ 13 ∧ Hid (∀ j, j < m → 456 ≤ cut D j))
    case atStart => exact ⟨0, rfl, rfl, rfl, rfl, by omega, fun j hj => by omega⟩
    case round =>
      obtain ⟨m, rfl, rfl, rfl, rfl, hm, HJ⟩ := hrel
      have hpp := pw_pos m
      have HI := hide (pw_le_iff D m)
      by_cases hle : pw m ≤ D / 456
      · have hall : ∀ j, j < m + 1 → 456 ≤ cut D j := fun j hj => by
          rcases Nat.lt_succ_iff_lt_or_eq.1 hj with h | h
          · exact HJ.out j h
          · subst h; exact HI.out.1 hle
        have hm' := few hD hall
        have HA := hide hall
        clear hall
        have HP := hide (pw_succ m)
        go_wp2
        go_roundg (D / 456 + 1 - pw (m + 1))
        case measure => rw [HP.out]; omega
        case rel => exact ⟨m + 1, rfl, rfl, by go_num, by rw [HP.out]; go_num, hm', HA⟩
      · have hst : Stops D m := ⟨by have := HI.out; omega, HJ.out⟩
        have hfr := frac_bd hst.1
        have hq : (D : Int) / (pw m : Int) = (cut D m : Int) := by simp [cut]
        have hc := hst.1
        have HST := hide hst
        clear hst
        go_wp2_with fail
        refine (HC.out _).mono ?_
        rintro e w1 ⟨m', rfl, hs', rfl⟩
        have hmm := stops_eq hs' HST.out
        clear hs'
        subst hmm
        have hb : (bias D m' == 36 * (m' : Int) + 36 * (cut D m' : Int) / ((cut D m' : Int) + 38)) = true := beq_self_eq_true _
        go_wp2
        go_ret
        exact ⟨rfl, rfl⟩

set_option maxHeartbeats 400000 in
theorem law_walk (a0 a1 : Int) (a2 : Bool) (w0 : (Lit.int .i64 a0).wf = true) (w1 : (Lit.int .i64 a1).wf = true) (w : World) :
    Calls Try.prog 3 #[.int .i64 a0, .int .i64 a1, .bool a2] w fun e w' => e = .returned (.bool true) ∧ Grown w w' := by
  have c0 := bounds_i64 w0
  have c1 := bounds_i64 w1
  clear w0 w1
  by_cases h0 : a0 < 0
  · have d0 : decide (a0 < 0) = true := decide_eq_true h0
    go_enter Try.func3, Try.ntmps3
    go_wp2
    go_ret
    exact ⟨rfl, Grown.refl _⟩
  · by_cases h1 : a1 < 1
    · have d0 : decide (a0 < 0) = false := decide_eq_false h0
      go_enter Try.func3, Try.ntmps3
      go_wp2
      go_ret
      exact ⟨rfl, Grown.refl _⟩
    · obtain ⟨x, rfl⟩ := Int.eq_ofNat_of_zero_le (show 0 ≤ a0 by omega)
      obtain ⟨l, rfl⟩ := Int.eq_ofNat_of_zero_le (show 0 ≤ a1 by omega)
      refine (law_any x l a2 w (by omega) (by omega) (by omega)).mono ?_
      rintro e w' ⟨rfl, rfl⟩
      exact ⟨rfl, Grown.refl _⟩
end Go.Proofs.Qxb6600667a
