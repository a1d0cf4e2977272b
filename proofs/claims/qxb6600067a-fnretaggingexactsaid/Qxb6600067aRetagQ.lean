/-
  FnRetaggingExact: the walk.
-/
import Derived.Test.Qxb6600067aRetagB
import Derived.Test.Qxb6600067aWithAllLaw
import Derived.Deep.RegionHeld
namespace Go.Proofs.Qxb6600067a
open Go.RowKit

set_option maxHeartbeats 400000 in
theorem zzretag_any (b bh nh : Nat) (L : List ByteArray) (g : ByteArray → Option ByteArray) (w : World) (hN : Names w b L) (hM : MapAt Try.prog 9 w bh nh (fun s => (g s).map Value.string))
    (hw : Well L) (hLs : ∀ s ∈ L, s.size ≤ maxLen) (hgs : ∀ s h, g s = some h → h.size ≤ maxLen) (l : L.length + nh ≤ 524288) :
    Calls Try.prog 23 #[.pointer (some ⟨b, 0, none⟩), .map (some bh)] w fun e w' => ∃ b' L' v, e = .returned (.tuple #[.pointer (some ⟨b', 0, none⟩), v]) ∧ Names w' b' L' ∧ RetOut w' v L L' g ∧ Below w.heap.size w w' := by
  go_enter Try.func23, Try.ntmps23
  go_wp2_with fail
  refine (retag_any b bh nh L g _ hN hM hw hLs hgs l).mono ?_
  rintro e w1 ⟨b', L', v, rfl, h1, h2, h3⟩
  clear hgs hLs
  go_wp2
  go_ret2
  exact ⟨b', L', v, rfl, h1, h2, h3⟩

/-! ### plain -/
/-- The heirs' map after k pairs. -/
def heirs (ks vs : List ByteArray) (k : Nat) (s : ByteArray) : Option ByteArray := (lastIdx (ks.take k) s).map (nth vs)

theorem heirs_succ {ks vs : List ByteArray} {k : Nat} (hk : k < ks.length) (s : ByteArray) : heirs ks vs (k + 1) s = if s = nth ks k then some (nth vs k) else heirs ks vs k s := by
  unfold heirs
  rw [List.take_succ_eq_append_getElem hk, ← nth_eq hk, lastIdx_snoc]
  by_cases h : s = nth ks k
  · simp [h, Nat.min_eq_left (Nat.le_of_lt hk)]
  · simp [h]

theorem nth_take {L : List ByteArray} {n i : Nat} (h : i < n) : nth (L.take n) i = nth L i := by
  simp [nth, List.getD, h]

theorem heirs_at {ks vs : List ByteArray} {k i : Nat} (hk : k ≤ ks.length) (hi : i < k) : ∃ j, j < k ∧ heirs ks vs k (nth ks i) = some (nth vs j) := by
  have hl : (ks.take k).length = k := by simp; omega
  have hm : nth ks i ∈ ks.take k := by
    rw [← nth_take hi]
    exact nth_mem (by omega)
  unfold heirs
  cases h : lastIdx (ks.take k) (nth ks i) with
  | none => exact absurd hm (lastIdx_none.1 h)
  | some j => exact ⟨j, by have := (lastIdx_some h).1; omega, rfl⟩

theorem heirs_of {ks vs : List ByteArray} {k : Nat} (hk : k ≤ ks.length) {s h : ByteArray} (e : heirs ks vs k s = some h) : ∃ i j, i < k ∧ j < k ∧ nth ks i = s ∧ h = nth vs j := by
  have hl : (ks.take k).length = k := by simp; omega
  unfold heirs at e
  obtain ⟨j, hj, rfl⟩ := Option.map_eq_some_iff.1 e
  obtain ⟨h1, h2⟩ := lastIdx_some hj
  rw [hl] at h1
  exact ⟨j, j, h1, h1, by rw [← nth_take h1]; exact h2, rfl⟩

/-- s is the heir of one of the first k keys, another than itself. -/
def isHeir (g : ByteArray → Option ByteArray) (ks : List ByteArray) (k : Nat) (s : ByteArray) : Bool := (List.range k).any fun i => decide (g (nth ks i) = some s) && decide (s ≠ nth ks i)

theorem isHeir_succ (g : ByteArray → Option ByteArray) (ks : List ByteArray) (k : Nat) (s : ByteArray) : isHeir g ks (k + 1) s = (isHeir g ks k s || (decide (g (nth ks k) = some s) && decide (s ≠ nth ks k))) := by
  simp [isHeir, List.range_succ]

def heirVal (g : ByteArray → Option ByteArray) (ks : List ByteArray) (k : Nat) (s : ByteArray) : Option Value := if isHeir g ks k s = true then some (.bool true) else none

theorem heirVal_same {g : ByteArray → Option ByteArray} {ks : List ByteArray} {k : Nat} {h : ByteArray} (hg : g (nth ks k) = some h) (e : h = nth ks k) (s : ByteArray) : heirVal g ks (k + 1) s = heirVal g ks k s := by
  unfold heirVal
  rw [isHeir_succ, hg]
  by_cases e2 : h = s
  · subst e2
    simp [e]
  · simp [e2]

theorem heirVal_put {g : ByteArray → Option ByteArray} {ks : List ByteArray} {k : Nat} {h : ByteArray} (hg : g (nth ks k) = some h) (e : h ≠ nth ks k) (s : ByteArray) : heirVal g ks (k + 1) s = if s = h then some (.bool true) else heirVal g ks k s := by
  unfold heirVal
  rw [isHeir_succ, hg]
  by_cases e2 : s = h
  · subst e2
    simp [e]
  · simp [e2, Ne.symm e2]

theorem heirVal_of {g : ByteArray → Option ByteArray} {ks vs : List ByteArray} {K : Nat} (hg : g = heirs ks vs K) (hK : K ≤ ks.length) {k s : ByteArray} (e : g k = some s) (hne : s ≠ k) : heirVal g ks K s = some (.bool true) := by
  have e' := e
  rw [hg] at e'
  obtain ⟨i, _, hi, _, rfl, _⟩ := heirs_of hK e'
  have : isHeir g ks K s = true := by
    unfold isHeir
    rw [List.any_eq_true]
    exact ⟨i, by simpa using hi, by simp [e, hne]⟩
  simp [heirVal, this]

/-- The name at place i is sent elsewhere. -/
def goesB (g : ByteArray → Option ByteArray) (L : List ByteArray) (i : Nat) : Bool := match g (nth L i) with | some h => decide (h ≠ nth L i) | none => false
def mvTo (g : ByteArray → Option ByteArray) (L : List ByteArray) (k : Nat) : Bool := (List.range k).any (goesB g L)
theorem mvTo_succ (g : ByteArray → Option ByteArray) (L : List ByteArray) (k : Nat) : mvTo g L (k + 1) = (mvTo g L k || goesB g L k) := by simp [mvTo, List.range_succ]
theorem goesB_true {g : ByteArray → Option ByteArray} {L : List ByteArray} {i : Nat} {h : ByteArray} (hg : g (nth L i) = some h) (e : h ≠ nth L i) : goesB g L i = true := by simp [goesB, hg, e]
theorem goesB_same {g : ByteArray → Option ByteArray} {L : List ByteArray} {i : Nat} {h : ByteArray} (hg : g (nth L i) = some h) (e : h = nth L i) : goesB g L i = false := by simp [goesB, hg, e]
theorem goesB_none {g : ByteArray → Option ByteArray} {L : List ByteArray} {i : Nat} (hg : g (nth L i) = none) : goesB g L i = false := by simp [goesB, hg]

/-- Both shapes of what retagging hands back, under one. -/
structure Shape (w : World) (a : Option Addr) (n : Nat) (L L' : List ByteArray) (g : ByteArray → Option ByteArray) : Prop where
  well : Well L'
  pre : Begins L L'
  added : ∀ i, L.length ≤ i → i < L'.length → ∃ k, g k = some (nth L' i) ∧ nth L' i ≠ k ∧ k.size ≤ maxLen
  old : ∀ i h, i < L.length → g (nth L i) = some h → h ≠ nth L i → h ∈ L'
  none : mvTo g L L.length = false → a = none ∧ L'.length = L.length
  some : mvTo g L L.length = true → ∃ x tf, a = some x ∧ n = L'.length ∧ Cells1 w a n (fun i => .int .u32 ((tf i : Nat) : Int)) ∧ Retagged L L' g tf

theorem RetOut.shape {w : World} {v : Value} {L L' : List ByteArray} {g : ByteArray → Option ByteArray} (h : RetOut w v L L' g) (hw : Well L) : ∃ a n c, v = .slice a n c ∧ Shape w a n L L' g := by
  rcases h with ⟨rfl, rfl, hn⟩ | ⟨a, c, tf, rfl, hc, hR, i, h, hi, hg, hne⟩
  · refine ⟨Option.none, 0, 0, rfl, hw, Begins.refl _, fun i h1 h2 => by omega, (fun i h hi hg hne => absurd (hn i h hi hg) hne), fun _ => ⟨rfl, rfl⟩, fun hm => ?_⟩
    exfalso
    unfold mvTo at hm
    rw [List.any_eq_true] at hm
    obtain ⟨i, hi, hg⟩ := hm
    unfold goesB at hg
    cases hgi : g (nth L' i) with
    | none => rw [hgi] at hg; cases hg
    | some h =>
      rw [hgi] at hg
      simp at hg
      exact hg (hn i h (by simpa using hi) hgi)
  · refine ⟨Option.some a, _, c, rfl, hR.well, hR.pre, hR.added, (fun i h hi hg hne => (hR.old i h hi hg hne).1), fun hm => ?_, fun _ => ⟨a, tf, rfl, rfl, hc, hR⟩⟩
    exfalso
    unfold mvTo at hm
    rw [List.any_eq_false] at hm
    exact hm i (by simpa using hi) (goesB_true hg hne)

theorem zero9 (w : World) : (zeroValue 9).run Try.prog w = .ok (.string ByteArray.empty) w := by kernel_rfl
theorem zero4 (w : World) : (zeroValue 4).run Try.prog w = .ok (.bool false) w := by kernel_rfl

end Go.Proofs.Qxb6600067a
