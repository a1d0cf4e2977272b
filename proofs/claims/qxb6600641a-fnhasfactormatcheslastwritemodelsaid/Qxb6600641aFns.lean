/-
  The guards, minLen, buildFactors, hasFactor: walks.
-/
import Derived.Test.Qxb6600641aBase
import Derived.Deep.LoopGhost
import Derived.RegionTactic
import Derived.BigQuiet
import Derived.Deep.QuietTactic
import Derived.Deep.RegionHeld
namespace Go.Proofs.Qxb6600641a
open Go.RowKit
set_option linter.unusedVariables false

set_option maxHeartbeats 400000 in
theorem zz6 (a0 : Option Addr) (n0 c0 : Nat) (s0 : List ByteArray) (a1 : Option Addr) (n1 c1 f : Nat) (w : World) (h0 : Strs w a0 n0 c0 s0) (l1 : n1 ≤ maxLen) :
    Calls Try.prog 6 #[.slice a0 n0 c0, .slice a1 n1 c1, .float .f64 f] w fun e w' => SomeBool e ∧ w' = w := by
  have m0 := h0.max
  unfold maxLen at m0 l1
  go_enter Try.func6, Try.ntmps6
  go_wp2
  · go_ret
    exact ⟨someBool _, rfl⟩
  go_loop [7, 8] (fun t i => ∃ (z : Int) (k : Nat), k ≤ n0 ∧ i = .int .i64 k ∧ t = .int .i64 z) (fun _ i => n0 - (intOf i).toNat)
  case atStart => exact ⟨_, 0, Nat.zero_le _, rfl, rfl⟩
  case round =>
    obtain ⟨z0, k0, hk0, rfl, rfl⟩ := hrel
    by_cases hlt0 : k0 < n0
    · have x1 := h0.ix k0 hlt0
      have x2 := h0.at hlt0
      go_wp2
      · go_ret
        exact ⟨someBool _, rfl⟩
      · go_ret
        exact ⟨someBool _, rfl⟩
      · go_round
        case rel => exact ⟨_, k0 + 1, by omega, by go_num, rfl⟩
        case measure => simp [intOf]; omega
    go_wp2
    all_goals
      go_ret
      exact ⟨someBool _, rfl⟩

set_option maxHeartbeats 400000 in
theorem zz15 (a0 : Option Addr) (n0 c0 : Nat) (s0 : List ByteArray) (a1 : Option Addr) (n1 c1 : Nat) (k : ByteArray) (v g : Nat) (w : World) (h0 : Strs w a0 n0 c0 s0) (l1 : n1 ≤ maxLen) (lk : k.size ≤ maxLen) :
    Calls Try.prog 15 #[.slice a0 n0 c0, .slice a1 n1 c1, .string k, .float .f64 v, .float .f64 g] w fun e w' => SomeBool e ∧ w' = w := by
  have m0 := h0.max
  unfold maxLen at m0 l1 lk
  go_enter Try.func15, Try.ntmps15
  go_wp2
  · go_ret
    exact ⟨someBool _, rfl⟩
  go_loop [11, 12] (fun t i => ∃ (z : Int) (k : Nat), k ≤ n0 ∧ i = .int .i64 k ∧ t = .int .i64 z) (fun _ i => n0 - (intOf i).toNat)
  case atStart => exact ⟨_, 0, Nat.zero_le _, rfl, rfl⟩
  case round =>
    obtain ⟨z0, k0, hk0, rfl, rfl⟩ := hrel
    by_cases hlt0 : k0 < n0
    · have x1 := h0.ix k0 hlt0
      have x2 := h0.at hlt0
      go_wp2
      · go_ret
        exact ⟨someBool _, rfl⟩
      · go_ret
        exact ⟨someBool _, rfl⟩
      · go_round
        case rel => exact ⟨_, k0 + 1, by omega, by go_num, rfl⟩
        case measure => simp [intOf]; omega
    go_wp2
    all_goals
      go_ret
      exact ⟨someBool _, rfl⟩

/-- A bool; false only where both lengths are small. -/
def Bounded (n0 n1 : Nat) (e : Ending) : Prop := ∃ b, e = .returned (.bool b) ∧ (b = false → n0 ≤ 65536 ∧ n1 ≤ 131072)
theorem bounded_true (n0 n1 : Nat) : Bounded n0 n1 (.returned (.bool true)) := ⟨true, rfl, fun h => by cases h⟩
theorem bounded_false {n0 n1 : Nat} (h0 : n0 ≤ 65536) (h1 : n1 ≤ 131072) : Bounded n0 n1 (.returned (.bool false)) := ⟨false, rfl, fun _ => ⟨h0, h1⟩⟩

set_option maxHeartbeats 400000 in
theorem tooMany (a0 : Option Addr) (n0 c0 : Nat) (s0 : List ByteArray) (a1 : Option Addr) (n1 c1 : Nat) (x : Int) (w : World) (h0 : Strs w a0 n0 c0 s0) (l1 : n1 ≤ maxLen) :
    Calls Try.prog 7 #[.slice a0 n0 c0, .slice a1 n1 c1, .int .i64 x] w fun e w' => Bounded n0 n1 e ∧ w' = w := by
  have m0 := h0.max
  unfold maxLen at m0 l1
  by_cases hx0 : x < 0
  · have d0 : decide (x < 0) = true := decide_eq_true hx0
    go_enter Try.func7, Try.ntmps7
    go_wp2
    go_ret
    exact ⟨bounded_true _ _, rfl⟩
  have d0 : decide (x < 0) = false := decide_eq_false hx0
  by_cases hx1 : 1048576 < x
  · have d1 : decide (1048576 < x) = true := decide_eq_true hx1
    go_enter Try.func7, Try.ntmps7
    go_wp2
    go_ret
    exact ⟨bounded_true _ _, rfl⟩
  have d1 : decide (1048576 < x) = false := decide_eq_false hx1
  by_cases hn0 : 65536 < n0
  · have d2 : decide ((65536 : Int) < (n0 : Int)) = true := decide_eq_true (by omega)
    go_enter Try.func7, Try.ntmps7
    go_wp2
    go_ret
    exact ⟨bounded_true _ _, rfl⟩
  have d2 : decide ((65536 : Int) < (n0 : Int)) = false := decide_eq_false (by omega)
  by_cases hn1 : 131072 < n1
  · have d3 : decide ((131072 : Int) < (n1 : Int)) = true := decide_eq_true (by omega)
    go_enter Try.func7, Try.ntmps7
    go_wp2
    go_ret
    exact ⟨bounded_true _ _, rfl⟩
  have d3 : decide ((131072 : Int) < (n1 : Int)) = false := decide_eq_false (by omega)
  go_enter Try.func7, Try.ntmps7
  go_wp2
  · go_ret
    exact ⟨bounded_true _ _, rfl⟩
  go_loop [7, 8] (fun t i => ∃ (z : Int) (k : Nat), k ≤ n0 ∧ i = .int .i64 k ∧ t = .int .i64 z) (fun _ i => n0 - (intOf i).toNat)
  case atStart => exact ⟨_, 0, Nat.zero_le _, rfl, rfl⟩
  case round =>
    obtain ⟨z0, k0, hk0, rfl, rfl⟩ := hrel
    by_cases hlt0 : k0 < n0
    · have x1 := h0.ix k0 hlt0
      have x2 := h0.at hlt0
      go_wp2
      · go_ret
        exact ⟨bounded_true _ _, rfl⟩
      · go_ret
        exact ⟨bounded_true _ _, rfl⟩
      · go_round
        case rel => exact ⟨_, k0 + 1, by omega, by go_num, rfl⟩
        case measure => simp [intOf]; omega
    go_wp2
    go_ret
    exact ⟨bounded_false (by omega) (by omega), rfl⟩

set_option maxHeartbeats 400000 in
theorem minLen_any (a b : Nat) (w : World) : Calls Try.prog 8 #[.int .i64 (a : Int), .int .i64 (b : Int)] w fun e w' => e = .returned (.int .i64 ((min a b : Nat) : Int)) ∧ w' = w := by
  by_cases h : a < b
  · have e : min a b = a := by omega
    rw [e]
    go_enter Try.func8, Try.ntmps8
    go_wp2
    go_ret
    exact ⟨rfl, rfl⟩
  · have e : min a b = b := by omega
    rw [e]
    go_enter Try.func8, Try.ntmps8
    go_wp2
    go_ret
    exact ⟨rfl, rfl⟩

/-- What the first k writes leave at s. -/
def built (ks : List ByteArray) (vf : Nat → Nat) (k : Nat) (s : ByteArray) : Option Nat := (lastIdx (ks.take k) s).map vf

theorem built_succ {ks : List ByteArray} {vf : Nat → Nat} {k : Nat} (hk : k < ks.length) (s : ByteArray) : built ks vf (k + 1) s = if s = nth ks k then some (vf k) else built ks vf k s := by
  unfold built
  rw [List.take_succ_eq_append_getElem hk, ← nth_eq hk, lastIdx_snoc]
  by_cases h : s = nth ks k
  · simp [h, Nat.min_eq_left (Nat.le_of_lt hk)]
  · simp [h]

set_option maxHeartbeats 400000 in
theorem build_any (a0 : Option Addr) (n0 c0 : Nat) (s0 : List ByteArray) (a1 : Option Addr) (n1 c1 : Nat) (vf : Nat → Nat) (w : World) (h0 : Strs w a0 n0 c0 s0) (h1 : Flts w a1 n1 vf) (l0 : n0 ≤ 65536) :
    Calls Try.prog 11 #[.slice a0 n0 c0, .slice a1 n1 c1] w fun e w' => ∃ bm n, e = .returned (.map (some bm)) ∧ MapAt Try.prog 9 w' bm n (fun s => (built s0 vf (min n0 n1) s).map (Value.float .f64)) ∧ n ≤ 65536 ∧ w.heap.size ≤ bm ∧ Below w.heap.size w w' := by
  have hmm := run_makeMap_hint (P := Try.prog) Try.underlying30
  have hl := h0.len
  have hmin : min n0 n1 ≤ n0 ∧ min n0 n1 ≤ n1 := by omega
  have m1 := h1.max
  unfold maxLen at m1
  go_enter Try.func11, Try.ntmps11
  go_wp2_with fail
  refine (minLen_any n0 n1 _).mono ?_
  rintro e w1 ⟨rfl, rfl⟩
  generalize hN : min n0 n1 = N at *
  have HN := hide hN
  clear hN
  go_wp2
  go_loopg [7] N (fun gk i wr => ∃ k : Nat, gk = N - k ∧ k ≤ N ∧ i = .int .i64 k ∧ MapAt Try.prog 9 wr w1.heap.size k (fun s => (built s0 vf k s).map (Value.float .f64)) ∧ Below w1.heap.size w1 wr)
  case atStart => exact ⟨0, rfl, Nat.zero_le _, rfl, (MapAt.made w1).congr (fun s _ => by simp [built, lastIdx]), below1 w1 _⟩
  case round =>
    obtain ⟨k, rfl, hk, rfl, hM, hbl⟩ := hrel
    by_cases hlt : k < N
    · have z1 := h0.ix k (by omega)
      have z2 := (h0.later hbl).at (show k < n0 by omega)
      have z3 := h0.small (show k < n0 by omega)
      have z4 := h1.ix c1 k (by omega)
      have z5 := (h1.later hbl).at (show k < n1 by omega)
      obtain ⟨w2, hrun, hM2, hg2, hs2⟩ := hM.drew.store Try.underlying9 Try.underlying30 (by unfold maxLen; omega) z3 (.float .f64 (vf k))
      go_wp2
      go_region_held (fun w' => w'.cell? (adOf a0 k) = some (.string (nth s0 k)) ∧ w'.cell? (adOf a1 k) = some (.float .f64 (vf k))) (first | go_keep | exact ⟨hM.drew.cell hg2 z2, hM.drew.cell hg2 z5⟩) (fail)
      go_wp2
      go_roundg (N - (k + 1))
      case measure => omega
      case rel => exact ⟨k + 1, rfl, by omega, by go_num, hM2.congr (fun s _ => by rw [built_succ (by omega)]; by_cases e : s = nth s0 k <;> simp [e]), hbl.drew.grown hg2 hbl.size (fun j hj => by cases hj; exact Nat.le_refl _)⟩
    · have HK : Hid (k = min n0 n1) := hide (by have := HN.out; omega)
      go_wp2
      go_ret
      exact ⟨_, k, rfl, by rw [← HK.out]; exact hM, by omega, Nat.le_refl _, hbl⟩

/-- Go's '==' on float64. -/
def feq (a b : Nat) : Bool := FloatKind.f64.format.order a b == some .eq

/-- Some key holds a number that equals f. -/
def Holds (g : ByteArray → Option Nat) (f : Nat) : Prop := ∃ s x, s.size ≤ maxLen ∧ g s = some x ∧ feq x f = true

def Answers (g : ByteArray → Option Nat) (f : Nat) (e : Ending) : Prop := ∃ b, e = .returned (.bool b) ∧ (b = true ↔ Holds g f)

theorem answers_true {g : ByteArray → Option Nat} {f : Nat} (h : Holds g f) : Answers g f (.returned (.bool true)) := ⟨true, rfl, fun _ => h, fun _ => rfl⟩
theorem answers_false {g : ByteArray → Option Nat} {f : Nat} (h : ¬ Holds g f) : Answers g f (.returned (.bool false)) := ⟨false, rfl, (fun e => by cases e), fun e => absurd e h⟩

set_option maxHeartbeats 400000 in
theorem has_any (bm n f : Nat) (g : ByteArray → Option Nat) (w : World) (hM : MapAt Try.prog 9 w bm n (fun s => (g s).map (Value.float .f64))) :
    Calls Try.prog 16 #[.map (some bm), .float .f64 f] w fun e w' => Answers g f e ∧ Below w.heap.size w w' := by
  go_enter Try.func16, Try.ntmps16
  go_wp2_with (first
    | (at_range; refine wpList_range _ rfl _ 30 rfl 9 24 Try.underlying9 Try.underlying30 bm n _ rfl hM ?_; intro w0 hR0 hg0 hs0)
    | go_in)
  go_frame
  go_loopw [6] (fun _ wr => ∃ left, RangeAt Try.prog 9 wr bm w.heap.size n (fun s => (g s).map (Value.float .f64)) left ∧ Hid (∀ s x, s.size ≤ maxLen → g s = some x → ¬ left s → feq x f = false) ∧ Below w.heap.size w wr) (fun _ wr => wr.rangeLeft bm w.heap.size)
  case atStart =>
    have hb0 := (Below.refl w.heap.size w).grown hg0 (Nat.le_refl _) (by simp)
    exact ⟨_, hR0, (fun s x _ hx hl => absurd (by simp [hx]) hl), hb0⟩
  case round =>
    obtain ⟨left, hR, HD, hbl⟩ := hrel
    go_wp2_with (first
      | (at_next; refine wpList_next_mk (Value.float .f64) g _ rfl _ rfl 9 Try.underlying9 bm w.heap.size n _ rfl hR ?_ ?_)
      | go_in)
    · intro hdone
      have hno : ¬ Holds g f := fun ⟨s, x, hs, hx, hf⟩ => by
        have := HD.out s x hs hx (hdone s hs)
        rw [hf] at this
        cases this
      have HNO := hide hno
      clear hno hdone
      go_wp2
      go_ret
      exact ⟨answers_false HNO.out, hbl⟩
    · intro s x w1 hs hl hgs hR1 hlt hg1 hs1 hen
      have hbl1 : Below w.heap.size w w1 := hbl.grown hg1 hbl.size (fun j hj => by cases hj; exact Nat.le_refl _)
      have HG := hide hgs
      clear hgs
      cases hq : feq x f
      · have hq' : (FloatKind.f64.format.order x f == some .eq) = false := hq
        have HQ := hide hq
        clear hq
        go_wp2
        go_roundw
        case rel =>
          refine ⟨_, hR1, ?_, hbl1⟩
          intro s' x' hs' hx' hl'
          by_cases e : s' = s
          · subst e
            rw [HG.out] at hx'
            cases hx'
            exact HQ.out
          · exact HD.out s' x' hs' hx' (fun h => hl' ⟨h, e⟩)
        case measure => exact hlt
      · have hq' : (FloatKind.f64.format.order x f == some .eq) = true := hq
        have HH : Hid (Holds g f) := ⟨s, x, hs, HG.out, hq⟩
        clear hq
        go_wp2
        go_ret
        exact ⟨answers_true HH.out, hbl1⟩

set_option maxHeartbeats 400000 in
theorem zzhas_any (bm n f : Nat) (g : ByteArray → Option Nat) (w : World) (hM : MapAt Try.prog 9 w bm n (fun s => (g s).map (Value.float .f64))) :
    Calls Try.prog 12 #[.map (some bm), .float .f64 f] w fun e w' => Answers g f e ∧ Below w.heap.size w w' := by
  go_enter Try.func12, Try.ntmps12
  go_wp2_with fail
  refine (has_any bm n f g _ hM).mono ?_
  rintro e w1 ⟨⟨b, rfl, hb⟩, hbl⟩
  have HB := hide hb
  clear hb
  go_wp2
  go_ret
  exact ⟨⟨b, rfl, HB.out⟩, hbl⟩

end Go.Proofs.Qxb6600641a
