/-
  coverAt: the walk.
-/
import Derived.Test.Qxb6600067aFloorFns
namespace Go.Proofs.Qxb6600067a
open Go.RowKit

/-- What coverAt hands back. -/
def ansV (o : Option (Nat × ByteArray)) : Value := match o with
  | some (v, s) => .tuple #[.bool true, .int .u64 (v : Int), .string s]
  | none => .tuple #[.bool false, .int .u64 0, .string ByteArray.empty]

set_option maxHeartbeats 1000000 in
theorem cover_any (a : Option Addr) (n c : Nat) (fl : List St) (p : Nat) (w : World) (hS : Steps w a n fl) (hC : Canon fl) (l : n ≤ 1048576) :
    Calls Try.prog 33 #[.slice a n c, .int .u64 (p : Int)] w fun e w' => e = .returned (ansV (cov fl p)) ∧ Below w.heap.size w w' := by
  have HC := hide hC
  have hlen := hS.len
  clear hC
  go_enter Try.func33, Try.ntmps33
  go_wp2
  go_loopg [7, 8] n (fun gk x y wr => ∃ lo hi : Nat, gk = hi - lo ∧ lo ≤ hi ∧ hi ≤ n ∧ x = .int .i64 lo ∧ y = .int .i64 hi ∧ Hid ((∀ i, i < lo → (stn fl i).a ≤ p) ∧ ∀ i, hi ≤ i → i < n → p < (stn fl i).a) ∧ Below w.heap.size w wr)
  case atStart => exact ⟨0, n, rfl, Nat.zero_le _, Nat.le_refl _, rfl, rfl, hide ⟨by simp, fun i h1 h2 => by omega⟩, Below.refl _ _⟩
  case round =>
    obtain ⟨lo, hi, rfl, hlh, hhn, rfl, rfl, HI, hb⟩ := hrel
    by_cases hlt : lo < hi
    · obtain ⟨m, hm⟩ : ∃ m, m = lo + (hi - lo) / 2 := ⟨_, rfl⟩
      have hW1 : IntKind.i64.wrap ((hi : Int) - (lo : Int)) = ((hi - lo : Nat) : Int) := by rw [← wrapI (n := hi - lo) (by omega)]; congr 1; omega
      have hq : ((hi - lo : Nat) : Int).tdiv 2 = (((hi - lo) / 2 : Nat) : Int) := by rw [Int.tdiv_eq_ediv_of_nonneg (by omega)]; omega
      have hW2 : IntKind.i64.wrap (((hi - lo) / 2 : Nat) : Int) = (((hi - lo) / 2 : Nat) : Int) := wrapI (by omega)
      have hW3 : IntKind.i64.wrap ((lo : Int) + (((hi - lo) / 2 : Nat) : Int)) = (m : Int) := by rw [← wrapI (n := m) (by omega)]; congr 1; omega
      have hE : (lo : Int) + ((hi - lo : Nat) : Int) / 2 = (m : Int) := by omega
      have hW4 := wrapI (n := m + 1) (by omega)
      have hmn : m < n := by omega
      have hI := hS.ix c m hmn
      obtain ⟨c0, c1, c2, c3⟩ := (hS.later hb).at hmn
      obtain ⟨x, hx⟩ : ∃ x, x = stn fl m := ⟨_, rfl⟩
      rw [← hx] at c0 c1 c2 c3
      obtain ⟨xa, xb, xv, xs⟩ := x
      simp only at c0 c1 c2 c3
      have HX := hide hx
      have HM := hide hm
      clear hx hm
      go_wp2_with fail
      refine (parts_any (xa : Int) (xb : Int) (xv : Int) xs _).mono ?_
      rintro e w1 ⟨rfl, g1⟩
      have hb1 := below_via hb g1
      clear g1 c0 c1 c2 c3
      by_cases e1 : xa ≤ p
      · have q1 : decide ((xa : Int) ≤ (p : Int)) = true := by simp; omega
        go_wp2
        go_roundg (hi - (m + 1))
        case measure => have := HM.out; omega
        refine ⟨m + 1, hi, rfl, by have := HM.out; omega, hhn, by simp, rfl, hide ⟨fun i hi' => ?_, HI.out.2⟩, hb1⟩
        rcases Nat.lt_succ_iff_lt_or_eq.1 hi' with h | h
        · have h1 := HC.out.far h (by omega)
          have h2 := HC.out.le _ (stn_mem (i := i) (by omega))
          rw [← HX.out] at h1
          simp only at h1
          omega
        · rw [h, ← HX.out]
          exact e1
      · have q1 : decide ((xa : Int) ≤ (p : Int)) = false := by simp; omega
        go_wp2
        go_roundg (m - lo)
        case measure => have := HM.out; omega
        refine ⟨lo, m, rfl, by have := HM.out; omega, by omega, rfl, rfl, hide ⟨HI.out.1, fun i h1 h2 => ?_⟩, hb1⟩
        rcases Nat.lt_or_ge m i with h | h
        · have h1 := HC.out.far h (by omega)
          have h2 := HC.out.le _ (stn_mem (i := m) (by omega))
          rw [← HX.out] at h1 h2
          simp only at h1 h2
          omega
        · obtain rfl : i = m := by omega
          rw [← HX.out]
          simp only
          omega
    · obtain rfl : lo = hi := by omega
      rcases Nat.eq_zero_or_pos lo with hz | hpos
      · subst hz
        have hN : cov fl p = none := cov_none (fun i hi => by
          have := HI.out.2 i (Nat.zero_le _) (by omega)
          simp [covers]
          omega)
        have HN := hide hN
        clear hN
        go_wp2
        exact bodyPost_ret (v := .tuple #[.bool false, .int .u64 0, .string ByteArray.empty]) (by simp [results, Try.results33, go_sem]; rfl) rfl ⟨by rw [HN.out]; rfl, hb⟩
      · obtain ⟨m, hm⟩ : ∃ m, lo = m + 1 := ⟨lo - 1, by omega⟩
        subst hm
        have hW := wrapI (n := m) (by omega)
        have hmn : m < n := by omega
        have hI := hS.ix c m hmn
        obtain ⟨c0, c1, c2, c3⟩ := (hS.later hb).at hmn
        obtain ⟨x, hx⟩ : ∃ x, x = stn fl m := ⟨_, rfl⟩
        rw [← hx] at c0 c1 c2 c3
        obtain ⟨xa, xb, xv, xs⟩ := x
        simp only at c0 c1 c2 c3
        have HX := hide hx
        clear hx
        have p0 : (((m : Int) + 1) == 0) = false := by simp; omega
        have p1 : ¬ ((m : Int) + 1 = 0) := by omega
        go_wp2_with fail
        refine (parts_any (xa : Int) (xb : Int) (xv : Int) xs _).mono ?_
        rintro e w1 ⟨rfl, g1⟩
        have hb1 := below_via hb g1
        clear g1 c0 c1 c2 c3
        have hxa : xa ≤ p := by have := HI.out.1 m (by omega); rw [← HX.out] at this; exact this
        by_cases e1 : xb < p
        · have q1 : decide ((xb : Int) < (p : Int)) = true := by simp; omega
          have hN : cov fl p = none := cov_none (fun i hi => by
            rcases Nat.lt_or_ge m i with h | h
            · have := HI.out.2 i (by omega) (by omega)
              simp [covers]
              omega
            · have : (stn fl i).b < p := by
                rcases Nat.lt_or_ge i m with h' | h'
                · have h1 := HC.out.far h' (by omega)
                  rw [← HX.out] at h1
                  simp only at h1
                  omega
                · obtain rfl : i = m := by omega
                  rw [← HX.out]
                  exact e1
              simp [covers]
              omega)
          have HN := hide hN
          clear hN
          go_wp2
          exact bodyPost_ret (v := .tuple #[.bool false, .int .u64 0, .string ByteArray.empty]) (by simp [results, Try.results33, go_sem]; rfl) rfl ⟨by rw [HN.out]; rfl, hb1⟩
        · have q1 : decide ((xb : Int) < (p : Int)) = false := by simp; omega
          have hN : cov fl p = some (xv, xs) := by
            have := cov_some HC.out (i := m) (p := p) (by omega) (by rw [← HX.out, covers_iff]; exact ⟨hxa, by simp only; omega⟩)
            rw [this, ← HX.out]
          have HN := hide hN
          clear hN
          go_wp2
          exact bodyPost_ret (v := .tuple #[.bool true, .int .u64 (xv : Int), .string xs]) (by simp [results, Try.results33, go_sem]) rfl ⟨by rw [HN.out]; rfl, hb1⟩
end Go.Proofs.Qxb6600067a
