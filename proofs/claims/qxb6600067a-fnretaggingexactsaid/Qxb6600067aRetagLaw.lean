/-
  FnRetaggingExact: the walk.
-/
import Derived.Test.Qxb6600067aRetagQ
import Derived.Deep.CutRange
namespace Go.Proofs.Qxb6600067a
open Go.RowKit

set_option maxHeartbeats 4000000 in
set_option maxRecDepth 100000 in
theorem retag_walk (a0 : Option Addr) (n0 c0 : Nat) (s0 : List ByteArray) (a1 : Option Addr) (n1 c1 : Nat) (s1 : List ByteArray) (a2 : Option Addr) (n2 c2 : Nat) (s2 : List ByteArray) (w : World) (h0 : Strs w a0 n0 c0 s0) (h1 : Strs w a1 n1 c1 s1) (h2 : Strs w a2 n2 c2 s2) :
    Calls Try.prog 6 #[.slice a0 n0 c0, .slice a1 n1 c1, .slice a2 n2 c2] w fun e w' => e = .returned (.bool true) ∧ Below w.heap.size w w' := by
  have hmm := run_makeMap_hint (P := Try.prog) Try.underlying39
  have hmm2 := run_makeMap_hint (P := Try.prog) Try.underlying40
  have l0' := h0.len
  have l1' := h1.len
  have l2' := h2.len
  have HE0 := hide h0.each
  have HE2 := hide h2.each
  have qn := nil29
  go_enter Try.func6, Try.ntmps6
  go_wp2_with fail
  refine (zz22 a0 n0 c0 s0 a1 n1 c1 s1 a2 n2 c2 s2 w h0 h1 h2).mono ?_
  rintro e w1 ⟨⟨b, rfl⟩, rfl⟩
  cases b
  · go_wp2
    go_ret
    exact ⟨rfl, Below.refl _ _⟩
  by_cases l0 : 65536 < n0
  · have d0 : decide ((65536 : Int) < (n0 : Int)) = true := decide_eq_true (by omega)
    go_wp2
    go_ret
    exact ⟨rfl, Below.refl _ _⟩
  have d0 : decide ((65536 : Int) < (n0 : Int)) = false := decide_eq_false (by omega)
  by_cases l1 : 65536 < n1
  · have d1 : decide ((65536 : Int) < (n1 : Int)) = true := decide_eq_true (by omega)
    go_wp2
    go_ret
    exact ⟨rfl, Below.refl _ _⟩
  have d1 : decide ((65536 : Int) < (n1 : Int)) = false := decide_eq_false (by omega)
  by_cases l2 : 65536 < n2
  · go_wp2
    go_ret
    exact ⟨rfl, Below.refl _ _⟩
  have d2 : decide ((65536 : Int) < (n2 : Int)) = false := decide_eq_false (by omega)
  go_wp2_with fail
  refine (addB_any a0 n0 c0 s0 _ _ h0).mono ?_
  rintro e w1 ⟨⟨r0, rfl⟩, rfl⟩
  go_wp2_with fail
  refine (addB_any a1 n1 c1 s1 _ _ h1).mono ?_
  rintro e w1 ⟨⟨r1, rfl⟩, rfl⟩
  go_wp2_with fail
  refine (addB_any a2 n2 c2 s2 _ _ h2).mono ?_
  rintro e w1 ⟨⟨r2, rfl⟩, rfl⟩
  by_cases hr : 1048576 < r2
  · go_wp2
    go_ret
    exact ⟨rfl, Below.refl _ _⟩
  have dr : decide ((1048576 : Int) < r2) = false := decide_eq_false hr
  go_wp2_with fail
  refine (clone_any a0 n0 c0 s0 _ h0 (by omega)).mono ?_
  rintro e w1 ⟨b0, e0, rfl, k0, g1⟩
  go_wp2_with fail
  refine (clone_any a1 n1 c1 s1 _ (h1.later g1) (by omega)).mono ?_
  rintro e w2 ⟨b1, e1, rfl, k1, g2⟩
  have k0' := k0.later g2
  have g12 := below_via g1 g2
  go_wp2_with fail
  refine (clone_any a2 n2 c2 s2 _ (h2.later g12) (by omega)).mono ?_
  rintro e w3 ⟨b2, e2, rfl, k2, g3⟩
  have k0'' := k0'.later g3
  have k1' := k1.later g3
  have g13 := below_via g12 g3
  clear k0 k0' k1 g1 g2 g12 g3
  go_wp2_with fail
  refine (namesOf_any b0 n0 e0 s0 _ k0'' (by omega)).mono ?_
  rintro e w4 ⟨bn, rfl, hN, _, g4⟩
  have k1 := k1'.later g4
  have k2' := k2.later g4
  have k0 := k0''.later g4
  have g14 := below_via g13 g4
  clear k0'' k1' k2 g13 g4 h0 h1 h2
  go_wp2_with fail
  refine (well_any bn s0 _ hN).mono ?_
  rintro e w5 ⟨rfl, rfl⟩
  cases hw0 : wellB s0
  · go_wp2
    go_ret
    exact ⟨rfl, g14⟩
  have W0 := hide (wellB_iff.1 hw0)
  clear hw0
  obtain ⟨K, hK⟩ : ∃ K, K = min n1 n2 := ⟨_, rfl⟩
  have hK1 : K ≤ n1 ∧ K ≤ n2 ∧ K ≤ 65536 := by omega
  go_upto_if 75 with (fail)
  go_cut [8] from 76 to 77 (fun v w => v = .int .i64 K ∧ w = w5)
  case first =>
    rcases (show n2 < n1 ∨ n1 ≤ n2 by omega) with hn | hn
    · have hKe : K = n2 := by omega
      clear hK hK1
      subst hKe
      go_wp2
      go_meet
      case rel => exact ⟨rfl, rfl⟩
    · have hKe : K = n1 := by omega
      clear hK hK1
      subst hKe
      go_wp2
      go_meet
      case rel => exact ⟨rfl, rfl⟩
  case rest =>
    obtain ⟨rfl, hwc⟩ := hcut
    subst hwc
    clear hK
    go_wp2
    go_loopg [10] K (fun gk i wr => ∃ k : Nat, gk = K - k ∧ k ≤ K ∧ i = .int .i64 k ∧ MapAt Try.prog 9 wr wc.heap.size k (fun s => (heirs s1 s2 k s).map Value.string) ∧ Below wc.heap.size wc wr)
    case atStart => exact ⟨0, rfl, Nat.zero_le _, rfl, (MapAt.made wc).congr (fun s _ => by simp [heirs, lastIdx]), below1 wc _⟩
    case round =>
      obtain ⟨k, rfl, hk, rfl, hM, hbl⟩ := hrel
      by_cases hlt : k < K
      · have z1 := k1.ix k (by omega)
        have z2 := (k1.later hbl).at (show k < n1 by omega)
        have z3 := k1.small (show k < n1 by omega)
        have z4 := k2'.ix k (by omega)
        have z5 := (k2'.later hbl).at (show k < n2 by omega)
        obtain ⟨w2, hrun, hM2, hg2, hs2⟩ := hM.drew.store Try.underlying9 Try.underlying39 (by unfold maxLen; omega) z3 (.string (nth s2 k))
        go_wp2
        go_region_held (fun w' => w'.cell? (adOf b1 k) = some (.string (nth s1 k)) ∧ w'.cell? (adOf b2 k) = some (.string (nth s2 k))) (first | go_keep | exact ⟨hM.drew.cell hg2 z2, hM.drew.cell hg2 z5⟩) (fail)
        go_wp2
        go_roundg (K - (k + 1))
        case measure => omega
        case rel => exact ⟨k + 1, rfl, by omega, by go_num, hM2.congr (fun s _ => by rw [heirs_succ (by omega)]; by_cases e : s = nth s1 k <;> simp [e]), hbl.drew.grown hg2 hbl.size (fun j hj => by cases hj; exact Nat.le_refl _)⟩
      · have hkK : k = K := by omega
        rw [hkK] at hM
        clear hkK
        obtain ⟨g, hg⟩ : ∃ g, g = heirs s1 s2 K := ⟨_, rfl⟩
        have HG := hide hg
        rw [← hg] at hM
        clear hg
        obtain ⟨wd, hwd⟩ : ∃ x, x = wr := ⟨_, rfl⟩
        subst hwd
        go_wp2
        clear hlt hk
        go_loopg [12] K (fun gk i wr => ∃ q : Nat, gk = K - q ∧ q ≤ K ∧ i = .int .i64 q ∧ MapAt Try.prog 9 wr wd.heap.size q (heirVal g s1 q) ∧ Below wd.heap.size wd wr)
        case atStart => exact ⟨0, rfl, Nat.zero_le _, rfl, (MapAt.made wd).congr (fun s _ => by simp [heirVal, isHeir]), below1 wd _⟩
        case round =>
          obtain ⟨q, rfl, hq, rfl, hI, hbd⟩ := hrel
          by_cases hlt : q < K
          · have z1 := k1.ix q (by omega)
            have z2 := ((k1.later hbl).later hbd).at (show q < n1 by omega)
            have z3 := k1.small (show q < n1 by omega)
            obtain ⟨j, hj, hgj⟩ := heirs_at (ks := s1) (vs := s2) (k := K) (i := q) (by omega) hlt
            rw [← HG.out] at hgj
            have hjs := k2'.small (show j < n2 by omega)
            have hlk := (hM.below hbd hM.lt).look Try.underlying9 Try.underlying39 (zero9 wr) z3
            rw [hgj] at hlk
            simp only [Option.map_some, Option.getD_some] at hlk
            have HGJ := hide hgj
            clear hgj
            by_cases he : nth s2 j = nth s1 q
            · have hb := beq_of_eq he
              have HE := hide he
              clear he
              go_wp2
              go_roundg (K - (q + 1))
              case measure => omega
              case rel => exact ⟨q + 1, rfl, by omega, by go_num, (hI.mono (Nat.le_succ _)).congr (fun s _ => (heirVal_same HGJ.out HE.out s).symm), hbd⟩
            · have hb := beq_of_ne he
              have HE := hide he
              clear he
              go_wp2_with (first
                | (at_mapUpdate; refine wpList_store _ rfl _ _ _ 40 rfl 9 4 Try.underlying9 Try.underlying40 wd.heap.size q _ rfl hI ?b1 _ _ rfl rfl hjs ?_)
                | go_in)
              case b1 => unfold maxLen; omega
              intro w6 hI2 hg2 hs2
              go_wp2
              go_roundg (K - (q + 1))
              case measure => omega
              case rel => exact ⟨q + 1, rfl, by omega, by go_num, hI2.congr (fun s _ => (heirVal_put HGJ.out HE.out s).symm), hbd.grown hg2 hbd.size (fun j hj => by cases hj; exact Nat.le_refl _)⟩
          · have hqK : q = K := by omega
            rw [hqK] at hI
            clear hqK
            have hMr := hM.below hbd hM.lt
            have hNr := (hN.later hbl).later hbd
            have k0r := (k0.later hbl).later hbd
            have gr := below_via (below_via g14 hbl) hbd
            have hgs : ∀ s h, g s = some h → h.size ≤ maxLen := fun s h e => by
              rw [HG.out] at e
              obtain ⟨_, j, _, hj, _, rfl⟩ := heirs_of (by omega) e
              exact HE2.out _ (nth_mem (by omega))
            have HGS := hide hgs
            clear hgs hM hN k0 k1 k2' g14 hbl hbd
            go_wp2_with fail
            refine (zzretag_any bn wc.heap.size K s0 g _ hNr hMr W0.out HE0.out HGS.out (by omega)).mono ?_
            rintro e w7 ⟨bm, L', tv, rfl, hMm, hRO, g7⟩
            obtain ⟨at', nt, ct, htv, hSh⟩ := hRO.shape W0.out
            subst htv
            have HSh := hide hSh
            clear hSh hRO
            have hM7 := hMr.below g7 hMr.lt
            have hI7 := hI.below g7 hI.lt
            have k07 := k0r.later g7
            have g17 := below_via gr g7
            clear hMr hI k0r gr g7 hNr
            have hwm := wellB_iff.2 HSh.out.well
            have hMm' := hMm
            obtain ⟨am, nm, cm, mm, hMa⟩ := hMm'
            have hSm := hMa.strs
            have em := hSm.len
            have hsm := hMa.small
            have hpl := HSh.out.pre.len
            go_wp2_with fail
            refine (list_any bm am nm cm mm _ _ hMa).mono ?_
            rintro e w8 ⟨rfl, rfl⟩
            clear hMa
            go_wp2_with fail
            refine (well_any bm _ _ hMm).mono ?_
            rintro e w8 ⟨rfl, rfl⟩
            have dnm : decide (nm < n0) = false := decide_eq_false (by omega)
            go_wp2
            go_loopg [17] n0 (fun gk i wr => ∃ k : Nat, gk = n0 - k ∧ k ≤ n0 ∧ i = .int .i64 k ∧ Below w8.heap.size w8 wr)
            case atStart => exact ⟨0, rfl, Nat.zero_le _, rfl, Below.refl _ _⟩
            case round =>
              obtain ⟨k', rfl, hk, rfl, hbl⟩ := hrel
              by_cases hlt : k' < n0
              · have z1 := k07.ix k' hlt
                have z2 := (k07.later hbl).at hlt
                have z3 := hSm.ix k' (by omega)
                have z4 := (hSm.later hbl).at (show k' < nm by omega)
                have hq := beq_of_eq (HSh.out.pre.nth (i := k') (by omega))
                go_wp2
                go_quiet (fail)
                go_wp2
                go_roundg (n0 - (k' + 1))
                case measure => omega
                case rel => exact ⟨k' + 1, rfl, by omega, by go_num, below_drewN hbl _⟩
              · go_wp2
                clear hlt hk
                go_loopg [18, 19] n0 (fun gk mv i wr => ∃ k : Nat, gk = n0 - k ∧ k ≤ n0 ∧ i = .int .i64 k ∧ mv = .bool (mvTo g s0 k) ∧ Below w8.heap.size w8 wr)
                case atStart => exact ⟨0, rfl, Nat.zero_le _, rfl, rfl, hbl⟩
                case round =>
                  clear hbl
                  obtain ⟨x, rfl, hk, rfl, rfl, hbl⟩ := hrel
                  have HSU := hide (mvTo_succ g s0 x)
                  by_cases hlt : x < n0
                  · have z1 := k07.ix x hlt
                    have z2 := (k07.later hbl).at hlt
                    have z3 := k07.small hlt
                    have hlk := (hM7.below hbl hM7.lt).look_ok Try.underlying9 Try.underlying39 (zero9 wr) z3
                    cases hgx : g (nth s0 x) with
                    | none =>
                      rw [hgx] at hlk
                      simp only [Option.map_none, Option.getD_none, Option.isSome_none] at hlk
                      have HB := hide (goesB_none hgx)
                      clear hgx
                      go_wp2
                      go_roundg (n0 - (x + 1))
                      case measure => omega
                      case rel => exact ⟨x + 1, rfl, by omega, by go_num, by rw [HSU.out, HB.out, Bool.or_false], hbl⟩
                    | some h =>
                      rw [hgx] at hlk
                      simp only [Option.map_some, Option.getD_some, Option.isSome_some] at hlk
                      by_cases he : h = nth s0 x
                      · have hb := beq_of_eq he
                        have HB := hide (goesB_same hgx he)
                        clear hgx he
                        go_wp2
                        go_roundg (n0 - (x + 1))
                        case measure => omega
                        case rel => exact ⟨x + 1, rfl, by omega, by go_num, by rw [HSU.out, HB.out, Bool.or_false], hbl⟩
                      · have hb := beq_of_ne he
                        have HB := hide (goesB_true hgx he)
                        have hmem := HSh.out.old x h (by omega) hgx he
                        have hhs := HGS.out _ _ hgx
                        have hh := hasIdx_iff.2 hmem
                        obtain ⟨m1, m2, m3⟩ := atIdx_lt hmem
                        have hq1 := beq_of_eq m3
                        clear hgx he hmem m3
                        go_wp2_with fail
                        refine (index_any bm L' h _ (hMm.later hbl) hhs).mono ?_
                        rintro e w9 ⟨rfl, rfl⟩
                        generalize atIdx L' h = ii at *
                        have z5 := hSm.cells.ixInt cm Try.underlying22 size9 .u32 ii m1 (by omega)
                        have z6 := (hSm.later hbl).at (show ii.toNat < nm by omega)
                        have dge : decide ((nm : Int) ≤ ii) = false := decide_eq_false (by omega)
                        go_wp2
                        go_roundg (n0 - (x + 1))
                        case measure => omega
                        case rel => exact ⟨x + 1, rfl, by omega, by go_num, by rw [HSU.out, HB.out, Bool.or_true], hbl⟩
                  · have HX : Hid (x = n0) := hide (by omega)
                    go_wp2
                    clear hlt hk HSU
                    go_loopg [25] (nm - n0) (fun gk i wr => ∃ q : Nat, gk = nm - q ∧ n0 ≤ q ∧ q ≤ nm ∧ i = .int .i64 q ∧ Below w8.heap.size w8 wr)
                    case atStart => exact ⟨n0, rfl, Nat.le_refl _, by omega, rfl, hbl⟩
                    case round =>
                      clear hbl
                      obtain ⟨q, rfl, hq0, hq, rfl, hbl⟩ := hrel
                      by_cases hlt : q < nm
                      · have z1 := hSm.ix q hlt
                        have z2 := (hSm.later hbl).at hlt
                        have z3 := hSm.small hlt
                        have hlk := (hI7.below hbl hI7.lt).look Try.underlying9 Try.underlying40 (zero4 wr) z3
                        have hisH : heirVal g s1 K (nth L' q) = some (.bool true) := by
                          obtain ⟨k, e1, e2, _⟩ := HSh.out.added q (by omega) (by omega)
                          exact heirVal_of HG.out (by omega) e1 e2
                        rw [hisH] at hlk
                        simp only [Option.getD_some] at hlk
                        clear hisH
                        go_wp2
                        go_roundg (nm - (q + 1))
                        case measure => omega
                        case rel => exact ⟨q + 1, rfl, by omega, by omega, by go_num, hbl⟩
                      · cases hmo : mvTo g s0 s0.length
                        · obtain ⟨hnone, hln⟩ := HSh.out.none hmo
                          have hm2 : mvTo g s0 x = false := by rw [HX.out, ← l0']; exact hmo
                          rw [hm2]
                          subst hnone
                          have dn : ((nm : Int) == (n0 : Int)) = true := by
                            have : nm = n0 := by omega
                            simp [this]
                          clear hln hm2 hmo
                          go_wp2
                          go_ret
                          exact ⟨rfl, below_via g17 hbl⟩
                        · obtain ⟨x0, tf, hat, hnt, hC, hRt⟩ := HSh.out.some hmo
                          have hm2 : mvTo g s0 x = true := by rw [HX.out, ← l0']; exact hmo
                          rw [hm2]
                          subst hat
                          rw [em] at hnt
                          have dn : ((nt : Int) != (nm : Int)) = false := by simp [hnt]
                          have HNT := hide hnt
                          have HRT := hide hRt
                          clear hnt hRt hm2 hmo
                          go_wp2
                          clear hlt hq hq0
                          go_loopg [26] nm (fun gk i wr => ∃ q : Nat, gk = nm - q ∧ q ≤ nm ∧ i = .int .i64 q ∧ Below w8.heap.size w8 wr)
                          case atStart => exact ⟨0, rfl, Nat.zero_le _, rfl, hbl⟩
                          case round =>
                            clear hbl
                            obtain ⟨y, rfl, hq, rfl, hbl⟩ := hrel
                            by_cases hlt : y < nm
                            · have z1 := hSm.ix y hlt
                              have z2 := (hSm.later hbl).at hlt
                              have z3 := hSm.small hlt
                              have hlk := (hM7.below hbl hM7.lt).look_ok Try.underlying9 Try.underlying39 (zero9 wr) z3
                              have hynt : y < nt := by have := HNT.out; omega
                              have z7 := hC.ix ct Try.underlying29 size33 y hynt
                              have z8 := (hC.later hbl).at hynt
                              have htof := HRT.out.tof y (by omega)
                              have hpn : y < n0 → nth L' y = nth s0 y := fun h => HSh.out.pre.nth (by omega)
                              have HPN := hide hpn
                              clear hpn
                              cases hgx : g (nth L' y) with
                              | none =>
                                rw [hgx] at hlk
                                simp only [Option.map_none, Option.getD_none, Option.isSome_none] at hlk
                                have htf : ((tf y : Int) != (y : Int)) = false := by
                                  rcases htof with e | ⟨h, e, _⟩
                                  · simp [e]
                                  · rw [hgx] at e; cases e
                                clear htof hgx
                                by_cases hy : y < n0
                                · have dy : decide (y < n0) = true := decide_eq_true hy
                                  go_wp2
                                  go_roundg (nm - (y + 1))
                                  case measure => omega
                                  case rel => exact ⟨y + 1, rfl, by omega, by go_num, hbl⟩
                                · have dy : decide (y < n0) = false := decide_eq_false hy
                                  go_wp2
                                  go_roundg (nm - (y + 1))
                                  case measure => omega
                                  case rel => exact ⟨y + 1, rfl, by omega, by go_num, hbl⟩
                              | some h =>
                                rw [hgx] at hlk
                                simp only [Option.map_some, Option.getD_some, Option.isSome_some] at hlk
                                by_cases he : h = nth L' y
                                · have hb := beq_of_eq he
                                  have htf : ((tf y : Int) != (y : Int)) = false := by
                                    rcases htof with e | ⟨h', e, e2, _⟩
                                    · simp [e]
                                    · rw [hgx] at e; cases e; exact absurd he e2
                                  clear htof hgx he
                                  by_cases hy : y < n0
                                  · have dy : decide (y < n0) = true := decide_eq_true hy
                                    go_wp2
                                    go_roundg (nm - (y + 1))
                                    case measure => omega
                                    case rel => exact ⟨y + 1, rfl, by omega, by go_num, hbl⟩
                                  · have dy : decide (y < n0) = false := decide_eq_false hy
                                    go_wp2
                                    go_roundg (nm - (y + 1))
                                    case measure => omega
                                    case rel => exact ⟨y + 1, rfl, by omega, by go_num, hbl⟩
                                · have hb := beq_of_ne he
                                  have hhs := HGS.out _ _ hgx
                                  cases hh : hasIdx L' h
                                  · have hy : ¬ y < n0 := fun hy => by
                                        have e1 := hgx
                                        rw [HPN.out hy] at e1
                                        exact hasIdx_false.1 hh (HRT.out.old y h (by omega) e1 (by rw [← HPN.out hy]; exact he)).1
                                    have dy : decide (y < n0) = false := decide_eq_false hy
                                    have htf : ((tf y : Int) != (y : Int)) = false := by
                                      rcases htof with e | ⟨h', e, _, e3, _⟩
                                      · simp [e]
                                      · rw [hgx] at e; cases e; exact absurd e3 (hasIdx_false.1 hh)
                                    clear htof hgx he
                                    go_wp2_with fail
                                    refine (index_any bm L' h _ (hMm.later hbl) hhs).mono ?_
                                    rintro e w9 ⟨rfl, rfl⟩
                                    go_wp2
                                    go_roundg (nm - (y + 1))
                                    case measure => omega
                                    case rel => exact ⟨y + 1, rfl, by omega, by go_num, hbl⟩
                                  · obtain ⟨m1, m2, m3⟩ := atIdx_lt (hasIdx_iff.1 hh)
                                    have hq1 := beq_of_eq m3
                                    clear m3
                                    by_cases hy : y < n0
                                    · have dy : decide (y < n0) = true := decide_eq_true hy
                                      have htf : ((tf y : Int) != atIdx L' h) = false := by
                                        have e1 := hgx
                                        rw [HPN.out hy] at e1
                                        rw [(HRT.out.old y h (by omega) e1 (by rw [← HPN.out hy]; exact he)).2]
                                        simp
                                      clear htof hgx he
                                      go_wp2_with fail
                                      refine (index_any bm L' h _ (hMm.later hbl) hhs).mono ?_
                                      rintro e w9 ⟨rfl, rfl⟩
                                      generalize atIdx L' h = ii at *
                                      have z5 := hSm.cells.ixInt cm Try.underlying22 size9 .u32 ii m1 (by omega)
                                      have z6 := (hSm.later hbl).at (show ii.toNat < nm by omega)
                                      have dge : decide ((nm : Int) ≤ ii) = false := decide_eq_false (by omega)
                                      go_wp2
                                      go_roundg (nm - (y + 1))
                                      case measure => omega
                                      case rel => exact ⟨y + 1, rfl, by omega, by go_num, hbl⟩
                                    · have dy : decide (y < n0) = false := decide_eq_false hy
                                      by_cases hty : tf y = y
                                      · have htf : ((tf y : Int) != (y : Int)) = false := by simp [hty]
                                        clear htof hgx he hty
                                        go_wp2_with fail
                                        refine (index_any bm L' h _ (hMm.later hbl) hhs).mono ?_
                                        rintro e w9 ⟨rfl, rfl⟩
                                        generalize atIdx L' h = ii at *
                                        have z5 := hSm.cells.ixInt cm Try.underlying22 size9 .u32 ii m1 (by omega)
                                        have z6 := (hSm.later hbl).at (show ii.toNat < nm by omega)
                                        have dge : decide ((nm : Int) ≤ ii) = false := decide_eq_false (by omega)
                                        go_wp2
                                        go_roundg (nm - (y + 1))
                                        case measure => omega
                                        case rel => exact ⟨y + 1, rfl, by omega, by go_num, hbl⟩
                                      · have htf : ((tf y : Int) != (y : Int)) = true := by simp; omega
                                        have htf2 : ((tf y : Int) == atIdx L' h) = true := by
                                          rcases htof with e | ⟨h', e, _, _, e4⟩
                                          · exact absurd e hty
                                          · rw [hgx] at e; cases e; simp [e4]
                                        clear htof hgx he hty
                                        go_wp2_with fail
                                        refine (index_any bm L' h _ (hMm.later hbl) hhs).mono ?_
                                        rintro e w9 ⟨rfl, rfl⟩
                                        generalize atIdx L' h = ii at *
                                        have z5 := hSm.cells.ixInt cm Try.underlying22 size9 .u32 ii m1 (by omega)
                                        have z6 := (hSm.later hbl).at (show ii.toNat < nm by omega)
                                        have dge : decide ((nm : Int) ≤ ii) = false := decide_eq_false (by omega)
                                        go_wp2
                                        go_roundg (nm - (y + 1))
                                        case measure => omega
                                        case rel => exact ⟨y + 1, rfl, by omega, by go_num, hbl⟩
                            · go_wp2
                              go_ret
                              exact ⟨rfl, below_via g17 hbl⟩
end Go.Proofs.Qxb6600067a
