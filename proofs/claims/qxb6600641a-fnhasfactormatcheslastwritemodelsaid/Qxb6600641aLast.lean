/-
  survivesWith, FnHasFactorMatchesLastWriteModel: the walks.
-/
import Derived.Test.Qxb6600641aFns
namespace Go.Proofs.Qxb6600641a
open Go.RowKit
set_option linter.unusedVariables false

/-- The i-th write holds f and is not overwritten below n. -/
def Lives (ks : List ByteArray) (vf : Nat → Nat) (n f i : Nat) : Prop := feq (vf i) f = true ∧ ∀ j, i < j → j < n → nth ks j ≠ nth ks i
def Surv (ks : List ByteArray) (vf : Nat → Nat) (n f : Nat) : Prop := ∃ i, i < n ∧ Lives ks vf n f i

theorem lastIdx_spec {L : List ByteArray} {s : ByteArray} {i : Nat} (h : lastIdx L s = some i) : ∀ j, i < j → j < L.length → nth L j ≠ s := by
  induction L generalizing i with
  | nil => cases h
  | cons y r ih =>
    intro j hij hj
    simp only [lastIdx] at h
    cases hr : lastIdx r s with
    | some k =>
      rw [hr] at h
      cases h
      obtain ⟨j', rfl⟩ : ∃ j', j = j' + 1 := ⟨j - 1, by omega⟩
      have := ih hr j' (by omega) (by simpa using hj)
      simpa [nth] using this
    | none =>
      rw [hr] at h
      by_cases e : s = y
      · simp [e] at h
        subst h
        obtain ⟨j', rfl⟩ : ∃ j', j = j' + 1 := ⟨j - 1, by omega⟩
        have hn := lastIdx_none.1 hr
        intro e2
        apply hn
        rw [← e2]
        have hj' : j' < r.length := by simpa using hj
        have e3 : nth (y :: r) (j' + 1) = nth r j' := by simp [nth]
        rw [e3]
        exact nth_mem hj'
      · simp [e] at h

theorem nth_take {L : List ByteArray} {n i : Nat} (h : i < n) : nth (L.take n) i = nth L i := by
  simp [nth, List.getD, h]

theorem holds_iff {ks : List ByteArray} {vf : Nat → Nat} {n f : Nat} (hn : n ≤ ks.length) (hs : ∀ s ∈ ks, s.size ≤ maxLen) : Holds (built ks vf n) f ↔ Surv ks vf n f := by
  have hl : (ks.take n).length = n := by simp; omega
  constructor
  · rintro ⟨s, x, _, hx, hf⟩
    unfold built at hx
    obtain ⟨i, hi, rfl⟩ := Option.map_eq_some_iff.1 hx
    obtain ⟨h1, h2⟩ := lastIdx_some hi
    have h3 := lastIdx_spec hi
    rw [hl] at h1
    rw [nth_take h1] at h2
    refine ⟨i, h1, hf, fun j hij hj => ?_⟩
    have := h3 j hij (by omega)
    rw [nth_take hj] at this
    rw [h2]
    exact this
  · rintro ⟨i, hi, hf, hj⟩
    have hmem : nth ks i ∈ ks.take n := by
      rw [← nth_take hi]
      exact nth_mem (by omega)
    cases hli : lastIdx (ks.take n) (nth ks i) with
    | none => exact absurd hmem (lastIdx_none.1 hli)
    | some m =>
      obtain ⟨h1, h2⟩ := lastIdx_some hli
      have h3 := lastIdx_spec hli
      rw [hl] at h1
      rw [nth_take h1] at h2
      have e : m = i := by
        rcases Nat.lt_trichotomy m i with h | h | h
        · exact absurd (nth_take hi) (h3 i h (by omega))
        · exact h
        · exact absurd h2 (hj m h h1)
      subst e
      exact ⟨nth ks m, vf m, hs _ (nth_mem (by omega)), by simp [built, hli], hf⟩

def Says (ks : List ByteArray) (vf : Nat → Nat) (n f : Nat) (e : Ending) : Prop := ∃ b, e = .returned (.bool b) ∧ (b = true ↔ Surv ks vf n f)
theorem says_true {ks : List ByteArray} {vf : Nat → Nat} {n f : Nat} (h : Surv ks vf n f) : Says ks vf n f (.returned (.bool true)) := ⟨true, rfl, fun _ => h, fun _ => rfl⟩
theorem says_false {ks : List ByteArray} {vf : Nat → Nat} {n f : Nat} (h : ¬ Surv ks vf n f) : Says ks vf n f (.returned (.bool false)) := ⟨false, rfl, (fun e => by cases e), fun e => absurd e h⟩

set_option maxHeartbeats 1000000 in
theorem surv_any (a0 : Option Addr) (n0 c0 : Nat) (s0 : List ByteArray) (a1 : Option Addr) (n1 c1 : Nat) (vf : Nat → Nat) (f : Nat) (w : World) (h0 : Strs w a0 n0 c0 s0) (h1 : Flts w a1 n1 vf) (l0 : n0 ≤ 65536) :
    Calls Try.prog 13 #[.slice a0 n0 c0, .slice a1 n1 c1, .float .f64 f] w fun e w' => Says s0 vf (min n0 n1) f e ∧ Below w.heap.size w w' := by
  have hl := h0.len
  have hmin : min n0 n1 ≤ n0 ∧ min n0 n1 ≤ n1 := by omega
  go_enter Try.func13, Try.ntmps13
  go_wp2_with fail
  refine (minLen_any n0 n1 _).mono ?_
  rintro e w1 ⟨rfl, rfl⟩
  generalize hN : min n0 n1 = N at *
  have HN := hide hN
  clear hN
  go_wp2
  go_loopg [8] N (fun gk i wr => ∃ k : Nat, gk = N - k ∧ k ≤ N ∧ i = .int .i64 k ∧ Hid (∀ i, i < k → ¬ Lives s0 vf N f i) ∧ Below w1.heap.size w1 wr)
  case atStart => exact ⟨0, rfl, Nat.zero_le _, rfl, (fun i hi => by omega), Below.refl _ _⟩
  case round =>
    obtain ⟨k, rfl, hk, rfl, HA, hbl⟩ := hrel
    by_cases hlt : k < N
    · have z1 := h1.ix c1 k (by omega)
      have z2 := (h1.later hbl).at (show k < n1 by omega)
      cases hq : feq (vf k) f
      · have hq' : (FloatKind.f64.format.order (vf k) f != some .eq) = true := by
          have : (FloatKind.f64.format.order (vf k) f == some .eq) = false := hq
          simp [bne, this]
        have HQ := hide hq
        clear hq
        go_wp2
        go_roundg (N - (k + 1))
        case measure => omega
        case rel =>
          refine ⟨k + 1, rfl, by omega, by go_num, ?_, hbl⟩
          intro i hi
          rcases Nat.lt_succ_iff_lt_or_eq.1 hi with h | h
          · exact HA.out i h
          · subst h
            intro hh
            have := HQ.out
            rw [hh.1] at this
            cases this
      · have hq' : (FloatKind.f64.format.order (vf k) f != some .eq) = false := by
          have : (FloatKind.f64.format.order (vf k) f == some .eq) = true := hq
          simp [bne, this]
        have HQ := hide hq
        clear hq
        go_wp2
        go_loopg [9, 10] (N - (k + 1)) (fun gk lv jv wr => ∃ q : Nat, gk = N - q ∧ k < q ∧ q ≤ N ∧ lv = .bool true ∧ jv = .int .i64 q ∧ Hid (∀ j, k < j → j < q → nth s0 j ≠ nth s0 k) ∧ Below w1.heap.size w1 wr)
        case atStart => exact ⟨k + 1, rfl, by omega, by omega, rfl, by go_num, (fun j h1 h2 => by omega), hbl⟩
        case round =>
          clear hbl
          obtain ⟨q, rfl, hkq, hqN, rfl, rfl, HB, hbl⟩ := hrel
          by_cases hlq : q < N
          · have y1 := h0.ix k (by omega)
            have y2 := (h0.later hbl).at (show k < n0 by omega)
            have y3 := h0.ix q (by omega)
            have y4 := (h0.later hbl).at (show q < n0 by omega)
            by_cases he : nth s0 q = nth s0 k
            · have hb := beq_of_eq he
              have HE := hide he
              clear he
              go_wp2
              go_quiet (fail)
              go_wp2
              go_roundg (N - (k + 1))
              case measure => omega
              case rel =>
                refine ⟨k + 1, rfl, by omega, by go_num, ?_, below_drewN hbl _⟩
                intro i hi
                rcases Nat.lt_succ_iff_lt_or_eq.1 hi with h | h
                · exact HA.out i h
                · subst h
                  intro hh
                  exact hh.2 q hkq hlq HE.out
            · have hb := beq_of_ne he
              have HE := hide he
              clear he
              go_wp2
              go_quiet (fail)
              go_wp2
              go_roundg (N - (q + 1))
              case measure => omega
              case rel =>
                refine ⟨q + 1, rfl, by omega, by omega, rfl, by go_num, ?_, below_drewN hbl _⟩
                intro j h1 h2
                rcases Nat.lt_succ_iff_lt_or_eq.1 h2 with h | h
                · exact HB.out j h1 h
                · subst h; exact HE.out
          · have HS : Hid (Surv s0 vf (min n0 n1) f) := hide (by
              rw [HN.out]
              exact ⟨k, hlt, HQ.out, fun j h1 h2 => HB.out j h1 (by omega)⟩)
            go_wp2
            go_ret
            exact ⟨says_true HS.out, hbl⟩
    · have HS : Hid (¬ Surv s0 vf (min n0 n1) f) := hide (by
        rw [HN.out]
        rintro ⟨i, hi, hh⟩
        exact HA.out i (by omega) hh)
      go_wp2
      go_ret
      exact ⟨says_false HS.out, hbl⟩

set_option maxHeartbeats 1000000 in
set_option maxRecDepth 100000 in
theorem last_walk (a0 : Option Addr) (n0 c0 : Nat) (s0 : List ByteArray) (a1 : Option Addr) (n1 c1 : Nat) (vf : Nat → Nat) (q : Nat) (w : World) (h0 : Strs w a0 n0 c0 s0) (h1 : Flts w a1 n1 vf) :
    Calls Try.prog 3 #[.slice a0 n0 c0, .slice a1 n1 c1, .float .f64 q] w fun e w' => e = .returned (.bool true) ∧ Below w.heap.size w w' := by
  have hlen := h0.len
  have heach := hide h0.each
  go_enter Try.func3, Try.ntmps3
  go_wp2_with fail
  refine (zz6 a0 n0 c0 s0 a1 n1 c1 q _ h0 h1.max).mono ?_
  rintro e w1 ⟨⟨b, rfl⟩, rfl⟩
  cases b
  · go_wp2
    go_ret
    exact ⟨rfl, Below.refl _ _⟩
  go_wp2_with fail
  refine (tooMany a0 n0 c0 s0 a1 n1 c1 _ _ h0 h1.max).mono ?_
  rintro e w1 ⟨⟨b, rfl, hb⟩, rfl⟩
  cases b
  case true =>
    go_wp2
    go_ret
    exact ⟨rfl, Below.refl _ _⟩
  obtain ⟨l0, l1⟩ := hb rfl
  clear hb
  go_wp2_with fail
  refine (minLen_any n0 n1 _).mono ?_
  rintro e w1 ⟨rfl, rfl⟩
  by_cases l5 : 4096 < min n0 n1
  · go_wp2
    go_ret
    exact ⟨rfl, Below.refl _ _⟩
  go_wp2_with fail
  refine (clone_any a0 n0 c0 s0 _ h0 (by omega)).mono ?_
  rintro e w1 ⟨b0, f0, rfl, k0, g1⟩
  go_wp2_with fail
  refine (cloneF_any a1 n1 c1 vf _ (h1.later g1) (by omega)).mono ?_
  rintro e w2 ⟨b1, f1, rfl, k1, g2⟩
  have k0' := k0.later g2
  have g12 := below_via g1 g2
  clear k0 g1 g2
  go_wp2_with fail
  refine (build_any b0 n0 f0 s0 b1 n1 f1 vf _ k0' k1 (by omega)).mono ?_
  rintro e w3 ⟨bm, nm, rfl, hM, hnm, hbm, g3⟩
  have g13 := below_via g12 g3
  have k0 := k0'.later g3
  have k1' := k1.later g3
  clear k0' k1 g3 g12
  go_wp2_with fail
  refine (zzhas_any bm nm q _ _ hM).mono ?_
  rintro e w4 ⟨⟨x1, rfl, hx1⟩, g4⟩
  rw [holds_iff (by omega) heach.out] at hx1
  have k0' := k0.later g4
  have k1 := k1'.later g4
  have g14 := below_via g13 g4
  have HX1 := hide hx1
  clear hx1 hM k0 k1' g13 g4
  go_wp2_with fail
  refine (surv_any b0 n0 f0 s0 b1 n1 f1 vf q _ k0' k1 (by omega)).mono ?_
  rintro e w5 ⟨⟨x2, rfl, hx2⟩, g5⟩
  have hfin : x1 = x2 := by
    rw [Bool.eq_iff_iff, hx2]
    exact HX1.out
  have g15 := below_via g14 g5
  clear hx2 HX1 g14 g5
  subst hfin
  cases x1
  · go_wp2
    go_ret
    exact ⟨rfl, g15⟩
  · go_wp2
    go_ret
    exact ⟨rfl, g15⟩
end Go.Proofs.Qxb6600641a
