/-
  FnWithAllSameNamesEitherWay: the walk.
-/
import Derived.Test.Qxb6600067aWithAllLaw
namespace Go.Proofs.Qxb6600067a
open Go.RowKit

theorem joined_comm_len {N L : List ByteArray} (hN : Well N) (hL : Well L) : (joined N L).length = (joined L N).length := by
  refine List.Perm.length_eq ((List.perm_ext_iff_of_nodup (nodup_iff.2 (joined_well hN hL)) (nodup_iff.2 (joined_well hL hN))).2 fun s => ?_)
  rw [mem_joined, mem_joined, Or.comm]

set_option maxHeartbeats 1000000 in
set_option maxRecDepth 100000 in
theorem same_walk (a0 : Option Addr) (n0 c0 : Nat) (s0 : List ByteArray) (a1 : Option Addr) (n1 c1 : Nat) (s1 : List ByteArray) (w : World) (h0 : Strs w a0 n0 c0 s0) (h1 : Strs w a1 n1 c1 s1) :
    Calls Try.prog 5 #[.slice a0 n0 c0, .slice a1 n1 c1] w fun e w' => e = .returned (.bool true) ∧ Below w.heap.size w w' := by
  have e0 := h0.len
  have e1 := h1.len
  go_enter Try.func5, Try.ntmps5
  go_wp2_with fail
  refine (zz21 a0 n0 c0 s0 a1 n1 c1 s1 w h0 h1).mono ?_
  rintro e w1 ⟨⟨b, rfl⟩, rfl⟩
  cases b
  · go_wp2
    go_ret
    exact ⟨rfl, Below.refl _ _⟩
  by_cases l0 : 65536 < n0
  · have d0 : decide ((65536 : Int) < (n0 : Int)) = true := decide_eq_true (by omega)
    go_wp2
    go_ret
    exact ⟨rfl, Below.refl _ _⟩
  have d0 : decide ((65536 : Int) < (n0 : Int)) = false := decide_eq_false (by omega)
  by_cases l1 : 65536 < n1
  · have d1 : decide ((65536 : Int) < (n1 : Int)) = true := decide_eq_true (by omega)
    go_wp2
    go_ret
    exact ⟨rfl, Below.refl _ _⟩
  have d1 : decide ((65536 : Int) < (n1 : Int)) = false := decide_eq_false (by omega)
  go_wp2_with fail
  refine (addB_any a0 n0 c0 s0 _ _ h0).mono ?_
  rintro e w1 ⟨⟨r0, rfl⟩, rfl⟩
  go_wp2_with fail
  refine (addB_any a1 n1 c1 s1 _ _ h1).mono ?_
  rintro e w1 ⟨⟨r1, rfl⟩, rfl⟩
  by_cases hr : 1048576 < r1
  · go_wp2
    go_ret
    exact ⟨rfl, Below.refl _ _⟩
  have dr : decide ((1048576 : Int) < r1) = false := decide_eq_false hr
  go_wp2_with fail
  refine (clone_any a0 n0 c0 s0 _ h0 (by omega)).mono ?_
  rintro e w1 ⟨b0, f0, rfl, k0, g1⟩
  go_wp2_with fail
  refine (clone_any a1 n1 c1 s1 _ (h1.later g1) (by omega)).mono ?_
  rintro e w2 ⟨b1, f1, rfl, k1, g2⟩
  have k0' := k0.later g2
  have g12 := below_via g1 g2
  clear k0 g1 g2 h0 h1
  go_wp2_with fail
  refine (namesOf_any b0 n0 f0 s0 _ k0' (by omega)).mono ?_
  rintro e w3 ⟨bn, rfl, hN, _, g3⟩
  have k1' := k1.later g3
  have k0 := k0'.later g3
  have g13 := below_via g12 g3
  clear k0' k1 g12 g3
  go_wp2_with fail
  refine (namesOf_any b1 n1 f1 s1 _ k1' (by omega)).mono ?_
  rintro e w4 ⟨bo, rfl, hO, hbo, g4⟩
  have hne : bn ≠ bo := by have := hN.lt; omega
  have k1 := k1'.later g4
  have k0' := k0.later g4
  have hN4 := hN.later g4
  have g14 := below_via g13 g4
  clear k0 k1' hN g13 g4 hbo
  go_wp2_with fail
  refine (well_any bn s0 _ hN4).mono ?_
  rintro e w5 ⟨rfl, rfl⟩
  cases hw0 : wellB s0
  · go_wp2
    go_ret
    exact ⟨rfl, g14⟩
  go_wp2_with fail
  refine (well_any bo s1 _ hO).mono ?_
  rintro e w5 ⟨rfl, rfl⟩
  cases hw1 : wellB s1
  · go_wp2
    go_ret
    exact ⟨rfl, g14⟩
  have W0 := wellB_iff.1 hw0
  have W1 := wellB_iff.1 hw1
  go_wp2_with fail
  refine (zzwithAll_any bn bo s0 s1 _ hN4 hO hne (by omega)).mono ?_
  rintro e w5 ⟨bm, tv, rfl, hM, _, g5⟩
  go_wp2_with fail
  refine (zzwithAll_any bo bn s1 s0 _ (hO.later g5) (hN4.later g5) (Ne.symm hne) (by omega)).mono ?_
  rintro e w6 ⟨bk, tu, rfl, hK, _, g6⟩
  have hM6 := hM.later g6
  have g16 := below_via (below_via g14 g5) g6
  have hWM := joined_well W0 W1
  have hWK := joined_well W1 W0
  have hwm := wellB_iff.2 hWM
  have hwk := wellB_iff.2 hWK
  have hlen := joined_comm_len W0 W1
  clear k0' k1 hN4 hO hM g14 g5 g6 hne W0 W1 hw0 hw1 hWM hWK
  have hM' := hM6
  obtain ⟨am, nm, cm, mm, hMa⟩ := hM'
  have hK' := hK
  obtain ⟨ak, nk, ck, mk, hKa⟩ := hK'
  have hSm := hMa.strs
  have em := hSm.len
  have hSk := hKa.strs
  have ek := hSk.len
  have hmm := hMa.small
  have hkk := hKa.small
  go_wp2_with fail
  refine (well_any bm _ _ hM6).mono ?_
  rintro e w7 ⟨rfl, rfl⟩
  go_wp2_with fail
  refine (well_any bk _ _ hK).mono ?_
  rintro e w7 ⟨rfl, rfl⟩
  go_wp2_with fail
  refine (list_any bm am nm cm mm _ _ hMa).mono ?_
  rintro e w7 ⟨rfl, rfl⟩
  go_wp2_with fail
  refine (list_any bk ak nk ck mk _ _ hKa).mono ?_
  rintro e w7 ⟨rfl, rfl⟩
  clear hMa hKa
  have dn : ((nm : Int) != (nk : Int)) = false := by
    have : nm = nk := by omega
    simp [this]
  have hnk : nm = nk := by omega
  have HNK := hide hnk
  clear hnk hlen
  go_wp2
  go_loopg [13] nm (fun gk i wr => ∃ k : Nat, gk = nm - k ∧ k ≤ nm ∧ i = .int .i64 k ∧ Below w7.heap.size w7 wr)
  case atStart => exact ⟨0, rfl, Nat.zero_le _, rfl, Below.refl _ _⟩
  case round =>
    obtain ⟨k, rfl, hk, rfl, hbl⟩ := hrel
    by_cases hlt : k < nm
    · have z1 := hSm.ix k hlt
      have z2 := (hSm.later hbl).at hlt
      have z3 := hSm.small hlt
      have hmem : nth (joined s0 s1) k ∈ joined s1 s0 := mem_joined.2 ((mem_joined.1 (nth_mem (show k < (joined s0 s1).length by omega))).symm)
      have hh := hasIdx_iff.2 hmem
      obtain ⟨m1, m2, m3⟩ := atIdx_lt hmem
      have hq1 := beq_of_eq m3
      clear m3 hmem
      go_wp2_with fail
      refine (index_any bk _ (nth (joined s0 s1) k) _ (hK.later hbl) z3).mono ?_
      rintro e w8 ⟨rfl, rfl⟩
      generalize atIdx (joined s1 s0) (nth (joined s0 s1) k) = ii at *
      have z5 := hSk.cells.ixInt ck Try.underlying22 size9 .u32 ii m1 (by omega)
      have z6 := (hSk.later hbl).at (show ii.toNat < nk by omega)
      have dge : decide ((nk : Int) ≤ ii) = false := decide_eq_false (by omega)
      go_wp2
      go_quiet (fail)
      go_wp2
      go_roundg (nm - (k + 1))
      case measure => omega
      case rel => exact ⟨k + 1, rfl, by omega, by go_num, below_drewN hbl _⟩
    · go_wp2
      clear hlt hk
      go_loopg [16] nk (fun gk i wr => ∃ k : Nat, gk = nk - k ∧ k ≤ nk ∧ i = .int .i64 k ∧ Below w7.heap.size w7 wr)
      case atStart => exact ⟨0, rfl, Nat.zero_le _, rfl, hbl⟩
      case round =>
        clear hbl
        obtain ⟨q, rfl, hq, rfl, hbl⟩ := hrel
        by_cases hlt : q < nk
        · have z1 := hSk.ix q hlt
          have z2 := (hSk.later hbl).at hlt
          have z3 := hSk.small hlt
          have hmem : nth (joined s1 s0) q ∈ joined s0 s1 := mem_joined.2 ((mem_joined.1 (nth_mem (show q < (joined s1 s0).length by omega))).symm)
          have hh := hasIdx_iff.2 hmem
          obtain ⟨m1, m2, m3⟩ := atIdx_lt hmem
          have hq1 := beq_of_eq m3
          clear m3 hmem
          go_wp2_with fail
          refine (index_any bm _ (nth (joined s1 s0) q) _ (hM6.later hbl) z3).mono ?_
          rintro e w8 ⟨rfl, rfl⟩
          generalize atIdx (joined s0 s1) (nth (joined s1 s0) q) = ii at *
          have z5 := hSm.cells.ixInt cm Try.underlying22 size9 .u32 ii m1 (by omega)
          have z6 := (hSm.later hbl).at (show ii.toNat < nm by omega)
          have dge : decide ((nm : Int) ≤ ii) = false := decide_eq_false (by omega)
          go_wp2
          go_quiet (fail)
          go_wp2
          go_roundg (nk - (q + 1))
          case measure => omega
          case rel => exact ⟨q + 1, rfl, by omega, by go_num, below_drewN hbl _⟩
        · go_wp2
          go_ret
          exact ⟨rfl, below_via g16 hbl⟩
end Go.Proofs.Qxb6600067a
