/-
  FnWithAllExact: the walk.
-/
import Derived.Test.Qxb6600067aLists
import Derived.Test.Qxb6600067aBytes
import Derived.BigQuiet
import Derived.Deep.QuietTactic
namespace Go.Proofs.Qxb6600067a
open Go.RowKit

set_option maxHeartbeats 400000 in
theorem zzwithAll_any (bn bo : Nat) (N L : List ByteArray) (w : World) (hN : Names w bn N) (hO : Names w bo L) (hne : bn ≠ bo) (l : N.length + L.length ≤ 1048576) :
    Calls Try.prog 16 #[.pointer (some ⟨bn, 0, none⟩), .pointer (some ⟨bo, 0, none⟩)] w fun e w' => ∃ bm v, e = .returned (.tuple #[.pointer (some ⟨bm, 0, none⟩), v]) ∧ Names w' bm (joined N L) ∧ Trans w' v (joined N L) L ∧ Below w.heap.size w w' := by
  go_enter Try.func16, Try.ntmps16
  go_wp2_with fail
  refine (withAll_any bn bo N L _ hN hO hne l).mono ?_
  rintro e w1 ⟨bm, v, rfl, h1, h2, h3⟩
  go_wp2
  go_ret2
  exact ⟨bm, v, rfl, h1, h2, h3⟩

theorem Names.lt {w : World} {b : Nat} {L : List ByteArray} (h : Names w b L) : b < w.heap.size := by
  obtain ⟨_, _, _, _, h⟩ := h
  exact (Array.getElem?_eq_some_iff.1 h.blk).1

theorem Cells1.ixInt {w : World} {a : Option Addr} {n : Nat} {f : Nat → Value} (h : Cells1 w a n f) {P : Program} {t e : TypeId} (c : Nat) (ht : P.underlying t = some (.slice e)) (hs : ∀ W, (sizeOf e).run P W = .ok 1 W) (k : IntKind) (x : Int) (h0 : 0 ≤ x) (hx : x < n) (W : World) :
    (Instr.indexAt t (.slice a n c) (.int k x)).run P W = .ok (.pointer (some (adOf a x.toNat))) W := by
  obtain ⟨y, rfl, _⟩ := h x.toNat (by omega)
  simp [Instr.indexAt, run_underlying ht, asIntOf, h0, hx, hs, adOf, Result.andThen]

theorem below_drewN' {w X : World} (h : Below w.heap.size w X) (n : Nat) : Below w.heap.size w (X.drewN n) := below_drewN h n

/-- Both shapes of what 'withAll' hands back, under one. -/
theorem Trans.shape {w : World} {v : Value} {M L : List ByteArray} (h : Trans w v M L) : ∃ a n c, v = .slice a n c ∧ Hid (sameTo M L L.length = true → a = none) ∧ Hid (sameTo M L L.length = false → n = L.length ∧ Cells1 w a n (fun i => .int .u32 (atIdx M (nth L i)))) := by
  unfold Trans at h
  cases hs : sameTo M L L.length
  · rw [hs] at h
    simp only [Bool.false_eq_true, if_false] at h
    obtain ⟨a, c, rfl, hc⟩ := h
    exact ⟨a, _, c, rfl, (fun h => by cases h), fun _ => ⟨rfl, hc⟩⟩
  · rw [hs] at h
    simp only [if_true] at h
    exact ⟨none, 0, 0, h, (fun _ => rfl), fun h => by cases h⟩

set_option maxHeartbeats 1000000 in
set_option maxRecDepth 100000 in
theorem withAll_walk (a0 : Option Addr) (n0 c0 : Nat) (s0 : List ByteArray) (a1 : Option Addr) (n1 c1 : Nat) (s1 : List ByteArray) (w : World) (h0 : Strs w a0 n0 c0 s0) (h1 : Strs w a1 n1 c1 s1) :
    Calls Try.prog 3 #[.slice a0 n0 c0, .slice a1 n1 c1] w fun e w' => e = .returned (.bool true) ∧ Below w.heap.size w w' := by
  have q29 := nil29
  have e0 := h0.len
  have e1 := h1.len
  go_enter Try.func3, Try.ntmps3
  go_wp2_with fail
  refine (zz11 a0 n0 c0 s0 a1 n1 c1 s1 w h0 h1).mono ?_
  rintro e w1 ⟨⟨b, rfl⟩, rfl⟩
  cases b
  · go_wp2
    go_ret
    exact ⟨rfl, Below.refl _ _⟩
  by_cases l0 : 65536 < n0
  · have d0 : decide ((65536 : Int) < (n0 : Int)) = true := decide_eq_true (by omega)
    go_wp2
    go_ret
    exact ⟨rfl, Below.refl _ _⟩
  have d0 : decide ((65536 : Int) < (n0 : Int)) = false := decide_eq_false (by omega)
  by_cases l1 : 65536 < n1
  · have d1 : decide ((65536 : Int) < (n1 : Int)) = true := decide_eq_true (by omega)
    go_wp2
    go_ret
    exact ⟨rfl, Below.refl _ _⟩
  have d1 : decide ((65536 : Int) < (n1 : Int)) = false := decide_eq_false (by omega)
  go_wp2_with fail
  refine (addB_any a0 n0 c0 s0 _ _ h0).mono ?_
  rintro e w1 ⟨⟨r0, rfl⟩, rfl⟩
  go_wp2_with fail
  refine (addB_any a1 n1 c1 s1 _ _ h1).mono ?_
  rintro e w1 ⟨⟨r1, rfl⟩, rfl⟩
  by_cases hr : 1048576 < r1
  · go_wp2
    go_ret
    exact ⟨rfl, Below.refl _ _⟩
  have dr : decide ((1048576 : Int) < r1) = false := decide_eq_false hr
  go_wp2_with fail
  refine (clone_any a0 n0 c0 s0 _ h0 (by omega)).mono ?_
  rintro e w1 ⟨b0, f0, rfl, k0, g1⟩
  go_wp2_with fail
  refine (clone_any a1 n1 c1 s1 _ (h1.later g1) (by omega)).mono ?_
  rintro e w2 ⟨b1, f1, rfl, k1, g2⟩
  have k0' := k0.later g2
  have g12 := below_via g1 g2
  clear k0 g1 g2 h0 h1
  go_wp2_with fail
  refine (namesOf_any b0 n0 f0 s0 _ k0' (by omega)).mono ?_
  rintro e w3 ⟨bn, rfl, hN, _, g3⟩
  have k1' := k1.later g3
  have k0 := k0'.later g3
  have g13 := below_via g12 g3
  clear k0' k1 g12 g3
  go_wp2_with fail
  refine (namesOf_any b1 n1 f1 s1 _ k1' (by omega)).mono ?_
  rintro e w4 ⟨bo, rfl, hO, hbo, g4⟩
  have hne : bn ≠ bo := by have := hN.lt; omega
  have k1 := k1'.later g4
  have k0' := k0.later g4
  have hN4 := hN.later g4
  have g14 := below_via g13 g4
  clear k0 k1' hN g13 g4 hbo
  go_wp2_with fail
  refine (well_any bn s0 _ hN4).mono ?_
  rintro e w5 ⟨rfl, rfl⟩
  cases hw0 : wellB s0
  · go_wp2
    go_ret
    exact ⟨rfl, g14⟩
  go_wp2_with fail
  refine (well_any bo s1 _ hO).mono ?_
  rintro e w5 ⟨rfl, rfl⟩
  cases hw1 : wellB s1
  · go_wp2
    go_ret
    exact ⟨rfl, g14⟩
  have W0 := wellB_iff.1 hw0
  have W1 := wellB_iff.1 hw1
  go_wp2_with fail
  refine (zzwithAll_any bn bo s0 s1 _ hN4 hO hne (by omega)).mono ?_
  rintro e w5 ⟨bm, tv, rfl, hM, hT, g5⟩
  obtain ⟨at', nt, ct, htv, hT1, hT2⟩ := hT.shape
  subst htv
  have hWM := joined_well W0 W1
  have hwm := wellB_iff.2 hWM
  have k1' := k1.later g5
  have k0 := k0'.later g5
  have hN := hN4.later g5
  have g15 := below_via g14 g5
  clear k0' k1 hN4 hO g14 g5 hne W0 W1 hw0 hw1
  have hM' := hM
  obtain ⟨am, nm, cm, mm, hMa⟩ := hM'
  have hSm := hMa.strs
  have em := hSm.len
  have hmm := hMa.small
  go_wp2_with fail
  refine (list_any bm am nm cm mm _ _ hMa).mono ?_
  rintro e w6 ⟨rfl, rfl⟩
  clear hMa
  go_wp2_with fail
  refine (well_any bm _ _ hM).mono ?_
  rintro e w6 ⟨rfl, rfl⟩
  have hjl := joined_len s0 s1
  have hml := moreOf_le s0 s1
  have dnm : decide (nm < n0) = false := decide_eq_false (by omega)
  go_wp2
  go_loopg [10] n0 (fun gk i wr => ∃ k : Nat, gk = n0 - k ∧ k ≤ n0 ∧ i = .int .i64 k ∧ Below w6.heap.size w6 wr)
  case atStart => exact ⟨0, rfl, Nat.zero_le _, rfl, Below.refl _ _⟩
  case round =>
    obtain ⟨k, rfl, hk, rfl, hbl⟩ := hrel
    by_cases hlt : k < n0
    · have z1 := k0.ix k hlt
      have z2 := (k0.later hbl).at hlt
      have z3 := hSm.ix k (by omega)
      have z4 := (hSm.later hbl).at (show k < nm by omega)
      have hq := beq_of_eq (joined_left s0 s1 (i := k) (by omega))
      go_wp2
      go_quiet (fail)
      go_wp2
      go_roundg (n0 - (k + 1))
      case measure => omega
      case rel => exact ⟨k + 1, rfl, by omega, by go_num, below_drewN hbl _⟩
    · go_wp2
      clear hlt hk
      go_loopg [11, 12] n1 (fun gk jv i wr => ∃ q j : Nat, gk = n1 - q ∧ q ≤ n1 ∧ i = .int .i64 q ∧ jv = .int .i64 j ∧ Hid (j = n0 + (moreOf s0 (s1.take q)).length) ∧ Below w6.heap.size w6 wr)
      case atStart => exact ⟨0, n0, rfl, Nat.zero_le _, rfl, rfl, hide (by simp [moreOf]), hbl⟩
      case round =>
        clear hbl
        obtain ⟨q, j, rfl, hq, rfl, rfl, HJ, hbl⟩ := hrel
        have hmq := moreOf_le s0 (s1.take q)
        rw [List.length_take] at hmq
        by_cases hlt : q < n1
        · have z1 := k1'.ix q hlt
          have z2 := (k1'.later hbl).at hlt
          have z3 := k1'.small hlt
          have HSU := hide (moreOf_succ s0 s1 (k := q) (by omega))
          go_wp2_with fail
          refine (index_any bn s0 (nth s1 q) _ (hN.later hbl) z3).mono ?_
          rintro e w7 ⟨rfl, rfl⟩
          cases hh : hasIdx s0 (nth s1 q)
          · have hj := HJ.out
            obtain ⟨j1, j2⟩ := joined_next s0 s1 (k := q) (by omega) hh
            rw [e0, ← hj] at j1 j2
            have hs := HSU.out
            rw [hh] at hs
            simp only [Bool.false_eq_true, if_false] at hs
            have HS2 := hide hs
            clear hs
            have hq1 := beq_of_eq j2
            have hjn : j < nm := by omega
            clear j2 hj
            have z5 := hSm.ix j hjn
            have z6 := (hSm.later hbl).at hjn
            have dge : decide (nm ≤ j) = false := decide_eq_false (by omega)
            go_wp2
            go_quiet (fail)
            go_wp2
            go_roundg (n1 - (q + 1))
            case measure => omega
            case rel =>
              refine ⟨q + 1, j + 1, rfl, by omega, by go_num, by go_num, hide ?_, below_drewN hbl _⟩
              have := HJ.out
              rw [HS2.out]
              simp
              omega
          · have hs := HSU.out
            rw [hh] at hs
            simp only [if_true, List.append_nil] at hs
            have HS2 := hide hs
            clear hs
            go_wp2
            go_roundg (n1 - (q + 1))
            case measure => omega
            case rel => exact ⟨q + 1, j, rfl, by omega, by go_num, rfl, hide (by rw [HS2.out]; exact HJ.out), hbl⟩
        · have hjn : j = nm := by
            have := HJ.out
            rw [List.take_of_length_le (by omega)] at this
            omega
          have dj : ((j : Int) != (nm : Int)) = false := by simp [hjn]
          clear hjn HJ hmq
          go_wp2
          clear hlt hq
          go_loopg [15, 16] n1 (fun gk sm i wr => ∃ q : Nat, gk = n1 - q ∧ q ≤ n1 ∧ i = .int .i64 q ∧ sm = .bool (lawSame (joined s0 s1) s1 q) ∧ Below w6.heap.size w6 wr)
          case atStart => exact ⟨0, rfl, Nat.zero_le _, rfl, rfl, hbl⟩
          case round =>
            clear hbl
            obtain ⟨q', rfl, hq, rfl, rfl, hbl⟩ := hrel
            have HSU := hide (lawSame_succ (joined s0 s1) s1 q')
            by_cases hlt : q' < n1
            · have z1 := k1'.ix q' hlt
              have z2 := (k1'.later hbl).at hlt
              by_cases hnm : q' < nm
              · have dge : decide (nm ≤ q') = false := decide_eq_false (by omega)
                have z5 := hSm.ix q' hnm
                have z6 := (hSm.later hbl).at hnm
                by_cases heq : nth (joined s0 s1) q' = nth s1 q'
                · have hq1 := beq_of_eq heq
                  have HE := hide heq
                  clear heq
                  go_wp2
                  go_quiet (fail)
                  go_wp2
                  go_roundg (n1 - (q' + 1))
                  case measure => omega
                  case rel => exact ⟨q' + 1, rfl, by omega, by go_num, by rw [HSU.out]; simp [HE.out, em, hnm], below_drewN hbl _⟩
                · have hq1 := beq_of_ne heq
                  have HE := hide heq
                  clear heq
                  go_wp2
                  go_quiet (fail)
                  go_wp2
                  go_roundg (n1 - (q' + 1))
                  case measure => omega
                  case rel => exact ⟨q' + 1, rfl, by omega, by go_num, by rw [HSU.out]; simp [HE.out], below_drewN hbl _⟩
              · have dge : decide (nm ≤ q') = true := decide_eq_true (by omega)
                go_wp2
                go_quiet (fail)
                go_wp2
                go_roundg (n1 - (q' + 1))
                case measure => omega
                case rel => exact ⟨q' + 1, rfl, by omega, by go_num, by rw [HSU.out]; simp [em, hnm], below_drewN hbl _⟩
            · have hqn : q' = n1 := by omega
              have hls : lawSame (joined s0 s1) s1 q' = sameTo (joined s0 s1) s1 s1.length := by
                rw [hqn, e1]; exact lawSame_eq hWM (fun s hs => mem_joined.2 (.inr hs)) (by omega)
              clear hqn HSU
              cases hsm : sameTo (joined s0 s1) s1 s1.length
              · have hl2 : lawSame (joined s0 s1) s1 q' = false := hls.trans hsm
                clear hls
                rw [hl2]
                clear hl2
                obtain ⟨hnt, hC⟩ := hT2.out hsm
                clear hT1 hT2 hsm
                have dn : ((nt : Int) != (n1 : Int)) = false := by simp [hnt, e1]
                have HNT := hide hnt
                clear hnt
                go_wp2
                clear hlt hq
                go_loopg [17] n1 (fun gk i wr => ∃ q : Nat, gk = n1 - q ∧ q ≤ n1 ∧ i = .int .i64 q ∧ Below w6.heap.size w6 wr)
                case atStart => exact ⟨0, rfl, Nat.zero_le _, rfl, hbl⟩
                case round =>
                  clear hbl
                  obtain ⟨x, rfl, hq, rfl, hbl⟩ := hrel
                  by_cases hlt : x < n1
                  · have hnt := HNT.out
                    have z1 := k1'.ix x hlt
                    have z2 := (k1'.later hbl).at hlt
                    have z3 := hC.ix ct Try.underlying29 size33 x (by omega)
                    have z4 := (hC.later hbl).at (show x < nt by omega)
                    obtain ⟨m1, m2, m3⟩ := atIdx_lt (mem_joined.2 (.inr (nth_mem (show x < s1.length by omega))) : nth s1 x ∈ joined s0 s1)
                    have hq1 := beq_of_eq m3
                    clear m3 hnt
                    generalize atIdx (joined s0 s1) (nth s1 x) = ii at *
                    have z5 := hSm.cells.ixInt cm Try.underlying22 size9 .u32 ii m1 (by omega)
                    have z6 := (hSm.later hbl).at (show ii.toNat < nm by omega)
                    have dge : decide ((nm : Int) ≤ ii) = false := decide_eq_false (by omega)
                    go_wp2
                    go_quiet (fail)
                    go_wp2
                    go_roundg (n1 - (x + 1))
                    case measure => omega
                    case rel => exact ⟨x + 1, rfl, by omega, by go_num, below_drewN hbl _⟩
                  · go_wp2
                    go_ret
                    exact ⟨rfl, below_via g15 hbl⟩
              · have hl2 : lawSame (joined s0 s1) s1 q' = true := hls.trans hsm
                clear hls
                rw [hl2]
                clear hl2
                have hnone := hT1.out hsm
                clear hT1 hT2 hsm
                subst hnone
                go_wp2
                go_ret
                exact ⟨rfl, below_via g15 hbl⟩
end Go.Proofs.Qxb6600067a
