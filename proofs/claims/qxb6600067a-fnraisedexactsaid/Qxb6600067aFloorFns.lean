/-
  canonicalFloor, coverAt, addEdges: the walks.
-/
import Derived.Test.Qxb6600067aThen
import Derived.Test.Qxb6600067aWords
namespace Go.Proofs.Qxb6600067a
open Go.RowKit

/-- Every place is a word. -/
def Small (fl : List St) : Prop := ∀ st ∈ fl, st.a < 18446744073709551616 ∧ st.b < 18446744073709551616

open Classical in
noncomputable def canonB (fl : List St) : Bool := decide (Canon fl)
theorem canonB_true {fl : List St} (h : Canon fl) : canonB fl = true := by simp [canonB, h]
theorem canonB_false {fl : List St} (h : ¬ Canon fl) : canonB fl = false := by simp [canonB, h]
theorem canonB_iff {fl : List St} : canonB fl = true ↔ Canon fl := by simp [canonB]

structure CanonK (fl : List St) (k : Nat) : Prop where
  le : ∀ i, i < k → (stn fl i).a ≤ (stn fl i).b
  lt : ∀ i, i + 1 < k → (stn fl i).b < (stn fl (i + 1)).a
  nj : ∀ i, i + 1 < k → joins (stn fl i) (stn fl (i + 1)) = false

theorem CanonK.canon {fl : List St} (h : CanonK fl fl.length) : Canon fl := by
  refine ⟨fun st hs => ?_, h.lt, h.nj⟩
  obtain ⟨j, hj, e⟩ := List.getElem_of_mem hs
  rw [← e, ← stn_eq hj]
  exact h.le j hj

theorem CanonK.one {fl : List St} {k : Nat} (h : CanonK fl k) (h1 : (stn fl k).a ≤ (stn fl k).b) (h2 : ∀ m, k = m + 1 → (stn fl m).b < (stn fl k).a ∧ joins (stn fl m) (stn fl k) = false) : CanonK fl (k + 1) := by
  refine ⟨fun i hi => ?_, fun i hi => ?_, fun i hi => ?_⟩
  · rcases Nat.lt_succ_iff_lt_or_eq.1 hi with h | rfl
    · exact CanonK.le ‹_› i h
    · exact h1
  · rcases Nat.lt_succ_iff_lt_or_eq.1 hi with h | h
    · exact CanonK.lt ‹_› i h
    · rw [h]; exact (h2 i h.symm).1
  · rcases Nat.lt_succ_iff_lt_or_eq.1 hi with h | h
    · exact CanonK.nj ‹_› i h
    · rw [h]; exact (h2 i h.symm).2

set_option maxHeartbeats 1000000 in
theorem canon_any (a : Option Addr) (n c : Nat) (fl : List St) (w : World) (hS : Steps w a n fl) (hB : Small fl) (l : n ≤ 1048576) :
    Calls Try.prog 29 #[.slice a n c] w fun e w' => e = .returned (.bool (canonB fl)) ∧ Below w.heap.size w w' := by
  have HB := hide hB
  have hlen := hS.len
  clear hB
  go_enter Try.func29, Try.ntmps29
  go_wp2
  go_loopg [3] n (fun gk i wr => ∃ k : Nat, gk = n - k ∧ k ≤ n ∧ i = .int .i64 k ∧ Hid (CanonK fl k) ∧ Below w.heap.size w wr)
  case atStart => exact ⟨0, rfl, Nat.zero_le _, rfl, hide ⟨by simp, by simp, by simp⟩, Below.refl _ _⟩
  case round =>
    obtain ⟨k, rfl, hk, rfl, HK, hb⟩ := hrel
    by_cases hlt : k < n
    · have hW := wrapI (n := k + 1) (by omega)
      have hI := hS.ix c k hlt
      obtain ⟨c0, c1, c2, c3⟩ := (hS.later hb).at hlt
      have hs := HB.out _ (stn_mem (i := k) (by omega))
      obtain ⟨x, hx⟩ : ∃ x, x = stn fl k := ⟨_, rfl⟩
      rw [← hx] at c0 c1 c2 c3 hs
      obtain ⟨xa, xb, xv, xs⟩ := x
      simp only at c0 c1 c2 c3 hs
      have HX := hide hx
      clear hx
      go_wp2_with fail
      refine (parts_any (xa : Int) (xb : Int) (xv : Int) xs _).mono ?_
      rintro e w1 ⟨rfl, g1⟩
      have hb1 := below_via hb g1
      clear g1 c0 c1 c2 c3
      by_cases e1 : xb < xa
      · have q1 : decide ((xb : Int) < (xa : Int)) = true := by simp; omega
        have hF := canonB_false (fl := fl) (fun h => by have := h.le _ (stn_mem (i := k) (by omega)); rw [← HX.out] at this; simp only at this; omega)
        have HF := hide hF
        clear hF
        go_wp2
        go_ret
        exact ⟨by simp [HF.out], hb1⟩
      have q1 : decide ((xb : Int) < (xa : Int)) = false := by simp; omega
      rcases Nat.eq_zero_or_pos k with hz | hpos
      · subst hz
        go_wp2
        go_roundg (n - (0 + 1))
        case measure => omega
        exact ⟨0 + 1, rfl, by omega, by simp, hide (HK.out.one (by rw [← HX.out]; simp only; omega) (fun m hm => by omega)), hb1⟩
      · obtain ⟨m, hm⟩ : ∃ m, k = m + 1 := ⟨k - 1, by omega⟩
        subst hm
        have hWm := wrapI (n := m) (by omega)
        have hIm := hS.ix c m (by omega)
        obtain ⟨c0, c1, c2, c3⟩ := (hS.later hb1).at (show m < n by omega)
        have hs2 := HB.out _ (stn_mem (i := m) (by omega))
        obtain ⟨y, hy⟩ : ∃ y, y = stn fl m := ⟨_, rfl⟩
        rw [← hy] at c0 c1 c2 c3 hs2
        obtain ⟨ya, yb, yv, ys⟩ := y
        simp only at c0 c1 c2 c3 hs2
        have HY := hide hy
        clear hy
        have p0 : decide ((0 : Int) < (m : Int) + 1) = true := decide_eq_true (by omega)
        go_wp2_with fail
        refine (parts_any (ya : Int) (yb : Int) (yv : Int) ys _).mono ?_
        rintro e w2 ⟨rfl, g2⟩
        have hb2 := below_via hb1 g2
        clear g2 c0 c1 c2 c3
        by_cases e2 : xa ≤ yb
        · have q2 : decide ((xa : Int) ≤ (yb : Int)) = true := by simp; omega
          have hF := canonB_false (fl := fl) (fun h => by have := h.lt m (by omega); rw [← HX.out, ← HY.out] at this; simp only at this; omega)
          have HF := hide hF
          clear hF
          go_wp2
          go_ret
          exact ⟨by simp [HF.out], hb2⟩
        have q2 : decide ((xa : Int) ≤ (yb : Int)) = false := by simp; omega
        have hU : IntKind.u64.wrap ((yb : Int) + 1) = (yb : Int) + 1 := by have := wrapU (n := yb + 1) (by omega); simpa using this
        have hNext : joins ⟨ya, yb, yv, ys⟩ ⟨xa, xb, xv, xs⟩ = false → CanonK fl (m + 1 + 1) := fun hj => HK.out.one (by rw [← HX.out]; simp only; omega) (fun m' hm' => by
          obtain rfl : m' = m := by omega
          rw [← HX.out, ← HY.out]
          exact ⟨by simp only; omega, hj⟩)
        have HN := hide hNext
        clear hNext
        by_cases j1 : yb + 1 = xa
        · have r1 : (((yb : Int) + 1) == (xa : Int)) = true := by simp; omega
          by_cases j2 : yv = xv
          · have r2 : ((yv : Int) == (xv : Int)) = true := by simp; omega
            by_cases j3 : ys = xs
            · have r3 := beq_of_eq j3
              have hF := canonB_false (fl := fl) (fun h => by have := h.nj m (by omega); rw [← HX.out, ← HY.out] at this; simp [joins, j1, j2, j3] at this)
              have HF := hide hF
              clear hF
              go_wp2
              go_ret
              exact ⟨by simp [HF.out], hb2⟩
            · have r3 := beq_of_ne j3
              go_wp2
              go_roundg (n - (m + 1 + 1))
              case measure => omega
              exact ⟨m + 1 + 1, rfl, by omega, by simp, hide (HN.out (by simp [joins, j3])), hb2⟩
          · have r2 : ((yv : Int) == (xv : Int)) = false := by simp; omega
            go_wp2
            go_roundg (n - (m + 1 + 1))
            case measure => omega
            exact ⟨m + 1 + 1, rfl, by omega, by simp, hide (HN.out (by simp [joins, j2])), hb2⟩
        · have r1 : (((yb : Int) + 1) == (xa : Int)) = false := by simp; omega
          go_wp2
          go_roundg (n - (m + 1 + 1))
          case measure => omega
          exact ⟨m + 1 + 1, rfl, by omega, by simp, hide (HN.out (by simp [joins, j1])), hb2⟩
    · obtain rfl : k = n := by omega
      have hT := canonB_true (CanonK.canon (by rw [hlen]; exact HK.out))
      have HF := hide hT
      clear hT
      go_wp2
      go_ret
      exact ⟨by simp [HF.out], hb⟩
end Go.Proofs.Qxb6600067a
