/-
  FnRaisedExact: the law's walk.
-/
import Derived.Test.Qxb6600067aRaisedP
namespace Go.Proofs.Qxb6600067a
open Go.RowKit

theorem wf_u64 {a : Int} (h : (Lit.int .u64 a).wf = true) : ∃ x : Nat, a = (x : Int) ∧ x < 18446744073709551616 := by
  have h' : 0 ≤ a ∧ a ≤ 18446744073709551615 := by simpa [Lit.wf, IntKind.min, IntKind.max, IntKind.signed, IntKind.bits] using h
  exact ⟨a.toNat, by omega, by omega⟩

set_option maxHeartbeats 4000000 in
set_option maxRecDepth 100000 in
theorem raised_walk (a0 : Option Addr) (n0 c0 : Nat) (s0 : List Nat) (a1 : Option Addr) (n1 c1 : Nat) (s1 : List Nat) (a2 : Option Addr) (n2 c2 : Nat) (s2 : List Nat) (a3 : Option Addr) (n3 c3 : Nat) (s3 : List ByteArray)
    (p4 p5 p6 : Int) (by' : ByteArray) (w : World) (h0 : U64s w a0 n0 c0 s0) (h1 : U64s w a1 n1 c1 s1) (h2 : U64s w a2 n2 c2 s2) (h3 : Strs w a3 n3 c3 s3)
    (f4 : (Lit.int .u64 p4).wf = true) (f5 : (Lit.int .u64 p5).wf = true) (f6 : (Lit.int .u64 p6).wf = true) (f7 : by'.size ≤ maxLen) :
    Calls Try.prog 8 #[.slice a0 n0 c0, .slice a1 n1 c1, .slice a2 n2 c2, .slice a3 n3 c3, .int .u64 p4, .int .u64 p5, .int .u64 p6, .string by'] w fun e w' => e = .returned (.bool true) ∧ Below w.heap.size w w' := by
  obtain ⟨first, rfl, hf⟩ := wf_u64 f4
  obtain ⟨last, rfl, hl⟩ := wf_u64 f5
  obtain ⟨version, rfl, hv⟩ := wf_u64 f6
  clear f4 f5 f6
  unfold maxLen at f7
  go_enter Try.func8, Try.ntmps8
  go_wp2_with fail
  refine (zz25 a0 a1 a2 a3 n0 c0 n1 c1 n2 c2 n3 c3 s0 s1 s2 s3 _ _ _ by' w h0 h1 h2 h3).mono ?_
  rintro e w1 ⟨⟨b, rfl⟩, rfl⟩
  cases b
  · go_wp2
    go_ret
    exact ⟨rfl, Below.refl _ _⟩
  by_cases l0 : 65536 < n0
  · have d0 : decide ((65536 : Int) < (n0 : Int)) = true := decide_eq_true (by omega)
    go_wp2
    go_ret
    exact ⟨rfl, Below.refl _ _⟩
  have d0 : decide ((65536 : Int) < (n0 : Int)) = false := decide_eq_false (by omega)
  by_cases l1 : 65536 < n1
  · have d1 : decide ((65536 : Int) < (n1 : Int)) = true := decide_eq_true (by omega)
    go_wp2
    go_ret
    exact ⟨rfl, Below.refl _ _⟩
  have d1 : decide ((65536 : Int) < (n1 : Int)) = false := decide_eq_false (by omega)
  by_cases l2 : 65536 < n2
  · have d2 : decide ((65536 : Int) < (n2 : Int)) = true := decide_eq_true (by omega)
    go_wp2
    go_ret
    exact ⟨rfl, Below.refl _ _⟩
  have d2 : decide ((65536 : Int) < (n2 : Int)) = false := decide_eq_false (by omega)
  by_cases l3 : 65536 < n3
  · have d3 : decide ((65536 : Int) < (n3 : Int)) = true := decide_eq_true (by omega)
    go_wp2
    go_ret
    exact ⟨rfl, Below.refl _ _⟩
  have d3 : decide ((65536 : Int) < (n3 : Int)) = false := decide_eq_false (by omega)
  by_cases l4 : 1048576 < by'.size
  · have d4 : decide ((1048576 : Int) < (by'.size : Int)) = true := decide_eq_true (by omega)
    go_wp2
    go_ret
    exact ⟨rfl, Below.refl _ _⟩
  have d4 : decide ((1048576 : Int) < (by'.size : Int)) = false := decide_eq_false (by omega)
  go_wp2_with fail
  refine (fbytes_any a0 a1 a2 a3 n0 c0 n1 c1 n2 c2 n3 c3 s0 s1 s2 s3 _ h0 h1 h2 h3).mono ?_
  rintro e w1 ⟨⟨r0, rfl⟩, rfl⟩
  obtain ⟨z, hz⟩ : ∃ z, z = wrap64 (r0 + (by'.size : Int)) := ⟨_, rfl⟩
  by_cases hr : 1048576 < z
  · have dr : decide ((1048576 : Int) < wrap64 (r0 + (by'.size : Int))) = true := decide_eq_true (by omega)
    go_wp2
    go_ret
    exact ⟨rfl, Below.refl _ _⟩
  have dr : decide ((1048576 : Int) < wrap64 (r0 + (by'.size : Int))) = false := decide_eq_false (by omega)
  clear hz hr
  by_cases hfl : last < first
  · have d5 : decide ((last : Int) < (first : Int)) = true := decide_eq_true (by omega)
    go_wp2
    go_ret
    exact ⟨rfl, Below.refl _ _⟩
  have d5 : decide ((last : Int) < (first : Int)) = false := decide_eq_false (by omega)
  have hfl' : first ≤ last := by omega
  go_wp2_with fail
  refine (cloneU_any a0 n0 c0 s0 _ h0 (by omega)).mono ?_
  rintro e w1 ⟨b0, e0, rfl, k0, g1⟩
  go_wp2_with fail
  refine (cloneU_any a1 n1 c1 s1 _ (h1.later g1) (by omega)).mono ?_
  rintro e w2 ⟨b1, e1, rfl, k1, g2⟩
  have k0' := k0.later g2
  have g12 := below_via g1 g2
  go_wp2_with fail
  refine (cloneU_any a2 n2 c2 s2 _ (h2.later g12) (by omega)).mono ?_
  rintro e w3 ⟨b2, e2, rfl, k2, g3⟩
  have k0'' := k0'.later g3
  have k1' := k1.later g3
  have g13 := below_via g12 g3
  go_wp2_with fail
  refine (clone_any a3 n3 c3 s3 _ (h3.later g13) (by omega)).mono ?_
  rintro e w4 ⟨b3, e3, rfl, k3, g4⟩
  have y0 := k0''.later g4
  have y1 := k1'.later g4
  have y2 := k2.later g4
  have g14 := below_via g13 g4
  clear k0 k0' k0'' k1 k1' k2 g1 g2 g3 g4 g12 g13 h0 h1 h2 h3
  go_wp2_with fail
  refine (floorOf_steps b0 b1 b2 b3 n0 e0 n1 e1 n2 e2 n3 e3 s0 s1 s2 s3 _ y0 y1 y2 k3 (by omega)).mono ?_
  rintro e w5 ⟨af, nf, cf, fl, rfl, hS, hSm, hln, g5⟩
  have g15 := below_via g14 g5
  have HSm := hide hSm
  clear hSm y0 y1 y2 k3 g5 g14
  go_wp2_with fail
  refine (canon_any af nf cf fl _ hS HSm.out (by omega)).mono ?_
  rintro e w6 ⟨rfl, g6⟩
  have hS6 := hS.later g6
  have g16 := below_via g15 g6
  clear hS g15 g6
  cases hcb : canonB fl
  · go_wp2
    go_ret
    exact ⟨rfl, g16⟩
  have HC := hide (canonB_iff.1 hcb)
  clear hcb
  go_wp2_with fail
  refine (zraised_steps af nf cf fl first last version by' _ hS6 HC.out hfl' HSm.out hf hl (by omega)).mono ?_
  rintro e w7 ⟨ar, nr, cr, R, rfl, hSR, hRl, hRc, hRs, hRv, g7⟩
  have HRc := hide hRc
  have HRs := hide hRs
  have HRv := hide hRv
  have hS7 := hS6.later g7
  have g17 := below_via g16 g7
  clear hRc hRs hRv hS6 g16 g7
  go_wp2_with fail
  refine (canon_any ar nr cr R _ hSR HRs.out (by omega)).mono ?_
  rintro e w8 ⟨rfl, g8⟩
  have hS8 := hS7.later g8
  have hSR8 := hSR.later g8
  have g18 := below_via g17 g8
  have hcb := canonB_true HRc.out
  clear hS7 hSR g17 g8
  rw [hcb]
  clear hcb
  have hlen := hS8.len
  go_wp2
  go_loopg [19, 20] nf (fun gk t i wr => ∃ k : Nat, gk = nf - k ∧ k ≤ nf ∧ t = .int .u64 ((topK fl first last version k : Nat) : Int) ∧ i = .int .i64 k ∧ Below w8.heap.size w8 wr)
  case atStart => exact ⟨0, rfl, Nat.zero_le _, rfl, rfl, Below.refl _ _⟩
  case round =>
    obtain ⟨k, rfl, hk, rfl, rfl, hb⟩ := hrel
    by_cases hlt : k < nf
    · have hW := wrapI (n := k + 1) (by omega)
      have hI := hS8.ix cf k hlt
      obtain ⟨c0, c1, c2, c3⟩ := (hS8.later hb).at hlt
      have HT := hide (topK_succ (fl := fl) (first := first) (last := last) (version := version) (k := k) (by omega))
      obtain ⟨t, ht⟩ : ∃ t, t = topK fl first last version k := ⟨_, rfl⟩
      rw [← ht] at HT
      rw [← ht]
      clear ht
      obtain ⟨x, hx⟩ : ∃ x, x = stn fl k := ⟨_, rfl⟩
      rw [← hx] at c0 c1 c2 c3 HT
      obtain ⟨xa, xb, xv, xs⟩ := x
      simp only at c0 c1 c2 c3
      clear hx
      go_wp2_with fail
      refine (parts_any (xa : Int) (xb : Int) (xv : Int) xs _).mono ?_
      rintro e w9 ⟨rfl, g9⟩
      have hb9 := below_via hb g9
      clear g9 c0 c1 c2 c3
      by_cases e1 : xa ≤ last
      · have q1 : decide ((xa : Int) ≤ (last : Int)) = true := decide_eq_true (by omega)
        by_cases e2 : first ≤ xb
        · have q2 : decide ((first : Int) ≤ (xb : Int)) = true := decide_eq_true (by omega)
          by_cases e3 : t < xv
          · have q3 : decide ((t : Int) < (xv : Int)) = true := decide_eq_true (by omega)
            go_wp2
            go_roundg (nf - (k + 1))
            case measure => omega
            refine ⟨k + 1, rfl, by omega, ?_, by simp, hb9⟩
            rw [HT.out, if_pos ⟨e1, e2⟩]
            congr 1
            omega
          · have q3 : decide ((t : Int) < (xv : Int)) = false := decide_eq_false (by omega)
            go_wp2
            go_roundg (nf - (k + 1))
            case measure => omega
            refine ⟨k + 1, rfl, by omega, ?_, by simp, hb9⟩
            rw [HT.out, if_pos ⟨e1, e2⟩]
            congr 1
            omega
        · have q2 : decide ((first : Int) ≤ (xb : Int)) = false := decide_eq_false (by omega)
          go_wp2
          go_roundg (nf - (k + 1))
          case measure => omega
          refine ⟨k + 1, rfl, by omega, ?_, by simp, hb9⟩
          rw [HT.out]
          simp [e2]
      · have q1 : decide ((xa : Int) ≤ (last : Int)) = false := decide_eq_false (by omega)
        go_wp2
        go_roundg (nf - (k + 1))
        case measure => omega
        refine ⟨k + 1, rfl, by omega, ?_, by simp, hb9⟩
        rw [HT.out]
        simp [e1]
    · obtain ⟨wB, hwB⟩ : ∃ x, x = wr := ⟨_, rfl⟩
      subst hwB
      have hS9 := hS8.later hb
      have hSR9 := hSR8.later hb
      have g19 := below_via g18 hb
      have hkn : nf = k := by omega
      subst hkn
      obtain ⟨t, ht⟩ : ∃ t, t = topK fl first last version nf := ⟨_, rfl⟩
      rw [← ht] at HRv
      rw [← ht]
      clear ht hlt hk hb hS8 hSR8 g18
      go_wp2_with (first
        | (at_builtin; refine wpList_append_word _ rfl _ _ rfl wB.heap.size (.slice none 0 0) [] _ rfl (Pts.nil _ _) (wB.heap.size) ?c1 rfl ?c2 ?c3 ?c4 ?c5 ?_)
        | go_in)
      case c1 => rfl
      case c2 => simp
      case c3 => exact Nat.le_refl _
      case c4 => omega
      case c5 => omega
      intro v1 p1 w1 hP1 hl1 gb1
      have HP1 := hide hP1
      clear hP1
      go_wp2_with (first
        | (at_builtin; refine wpList_append_word _ rfl _ _ rfl wB.heap.size v1 p1 _ rfl HP1.out (w1.heap.size) ?c1 rfl ?c2 ?c3 ?c4 ?c5 ?_)
        | go_in)
      case c1 => rfl
      case c2 => omega
      case c3 => exact gb1.size
      case c4 => omega
      case c5 => omega
      intro v2 p2 w2 hP2 hl2 gb2
      have HP2 := hide hP2
      have gb2' := gb1.trans gb2
      clear hP2 gb1 gb2 HP1
      go_upto_if 143 with (fail)
      obtain ⟨bb, hbb⟩ : ∃ bb, bb = decide ((last : Int) < 18446744073709551615) := ⟨_, rfl⟩
      rw [← hbb]
      have HBB := hide hbb
      clear hbb
      go_cut [25] from 144 to 148 (fun v W => ∃ pts, Pts W wB.heap.size v pts ∧ pts.length ≤ 3 ∧ Below wB.heap.size wB W)
      case first =>
        cases bb
        · go_wp2
          go_meet
          case rel => exact ⟨p2, HP2.out, by omega, gb2'⟩
        · have e1 : last < 18446744073709551615 := by
            have h1 := of_decide_eq_true HBB.out.symm
            omega
          have hU : IntKind.u64.wrap ((last : Int) + 1) = (last : Int) + 1 := by have := wrapU (n := last + 1) (by omega); simpa using this
          have HE := hide e1
          clear e1
          go_wp2_with (first
            | (at_builtin; refine wpList_append_word _ rfl _ _ rfl wB.heap.size v2 p2 _ rfl HP2.out (w2.heap.size) ?c1 rfl ?c2 ?c3 ?c4 ?c5 ?_)
            | go_in)
          case c1 => rfl
          case c2 => omega
          case c3 => exact gb2'.size
          case c4 => omega
          case c5 => have := HE.out; omega
          intro v3 p3 w3 hP3 hl3 gb3
          have HP3 := hide hP3
          have gb3' := gb2'.trans gb3
          clear hP3 gb3
          go_wp2
          go_meet
          case rel => exact ⟨p3, HP3.out, by omega, gb3'⟩
      case rest =>
        obtain ⟨pts, hP, hpl, gc⟩ := hcut
        have HP := hide hP
        clear hP HP2 hl1 hl2 gb2'
        go_wp2_with fail
        refine (edges_any af nf cf fl u25 pts wB _ hS9 gc HP.out HSm.out (by omega) (by omega)).mono ?_
        rintro e wd ⟨vd, pd, rfl, hPd, hld, gd⟩
        have HPd := hide hPd
        clear hPd HP gc
        go_wp2_with fail
        refine (edges_words ar nr cr R vd pd wB _ hSR9 gd HPd.out HRs.out (by omega) (by omega)).mono ?_
        rintro e we ⟨ap, np, cp, pe, rfl, hU, hnp, ge⟩
        clear HPd gd hld hpl
        have hSe := hS9.later ge
        have hSRe := hSR9.later ge
        have g1e := below_via g19 ge
        clear hS9 hSR9 g19 ge
        go_wp2
        go_loopg [26] np (fun gk i wr => ∃ k : Nat, gk = np - k ∧ k ≤ np ∧ i = .int .i64 k ∧ Below we.heap.size we wr)
        case atStart => exact ⟨0, rfl, Nat.zero_le _, rfl, Below.refl _ _⟩
        case round =>
          obtain ⟨k, rfl, hk, rfl, gq⟩ := hrel
          by_cases hlt : k < np
          · have hW := wrapI (n := k + 1) (by omega)
            have hI := hU.ix k hlt
            have z0 := (hU.later gq).at hlt
            have hSq := hSe.later gq
            have hSRq := hSRe.later gq
            obtain ⟨p, hp⟩ : ∃ p, p = nn pe k := ⟨_, rfl⟩
            rw [← hp] at z0
            clear hp
            have hV := HRv.out p
            go_wp2_with fail
            have hX := cover_any ar nr cr R p _ hSRq HRc.out (by omega)
            by_cases e1 : p < first
            · have q1 : decide ((p : Int) < (first : Int)) = true := decide_eq_true (by omega)
              have hY := fun wz (hz : Steps wz af nf fl) => cover_any af nf cf fl p wz hz HC.out (by omega)
              rw [hV, if_pos (Or.inl e1)] at hX
              clear hV
              cases ho : cov fl p with
              | none =>
                rw [ho] at hX hY
                simp only [ansV] at hX hY
                refine hX.mono ?_
                rintro e wh ⟨rfl, gh⟩
                have hSh := hSq.later gh
                have gqh := below_via gq gh
                clear hX gh
                go_wp2_with fail
                refine (hY _ hSh).mono ?_
                rintro e wi ⟨rfl, gi⟩
                have gqi := below_via gqh gi
                clear gi hY
                go_wp2
                go_roundg (np - (k + 1))
                case measure => omega
                exact ⟨k + 1, rfl, by omega, by simp, gqi⟩
              | some vs =>
                obtain ⟨av, ay⟩ := vs
                rw [ho] at hX hY
                simp only [ansV] at hX hY
                refine hX.mono ?_
                rintro e wh ⟨rfl, gh⟩
                have hSh := hSq.later gh
                have gqh := below_via gq gh
                clear hX gh
                go_wp2_with fail
                refine (hY _ hSh).mono ?_
                rintro e wi ⟨rfl, gi⟩
                have gqi := below_via gqh gi
                clear gi hY
                go_wp2
                go_roundg (np - (k + 1))
                case measure => omega
                exact ⟨k + 1, rfl, by omega, by simp, gqi⟩
            · have q1 : decide ((p : Int) < (first : Int)) = false := decide_eq_false (by omega)
              by_cases e2 : last < p
              · have q2 : decide ((last : Int) < (p : Int)) = true := decide_eq_true (by omega)
                have hY := fun wz (hz : Steps wz af nf fl) => cover_any af nf cf fl p wz hz HC.out (by omega)
                rw [hV, if_pos (Or.inr e2)] at hX
                clear hV
                cases ho : cov fl p with
                | none =>
                  rw [ho] at hX hY
                  simp only [ansV] at hX hY
                  refine hX.mono ?_
                  rintro e wh ⟨rfl, gh⟩
                  have hSh := hSq.later gh
                  have gqh := below_via gq gh
                  clear hX gh
                  go_wp2_with fail
                  refine (hY _ hSh).mono ?_
                  rintro e wi ⟨rfl, gi⟩
                  have gqi := below_via gqh gi
                  clear gi hY
                  go_wp2
                  go_roundg (np - (k + 1))
                  case measure => omega
                  exact ⟨k + 1, rfl, by omega, by simp, gqi⟩
                | some vs =>
                  obtain ⟨av, ay⟩ := vs
                  rw [ho] at hX hY
                  simp only [ansV] at hX hY
                  refine hX.mono ?_
                  rintro e wh ⟨rfl, gh⟩
                  have hSh := hSq.later gh
                  have gqh := below_via gq gh
                  clear hX gh
                  go_wp2_with fail
                  refine (hY _ hSh).mono ?_
                  rintro e wi ⟨rfl, gi⟩
                  have gqi := below_via gqh gi
                  clear gi hY
                  go_wp2
                  go_roundg (np - (k + 1))
                  case measure => omega
                  exact ⟨k + 1, rfl, by omega, by simp, gqi⟩
              · have q2 : decide ((last : Int) < (p : Int)) = false := decide_eq_false (by omega)
                rw [hV, if_neg (by omega)] at hX
                clear hV
                simp only [ansV] at hX
                refine hX.mono ?_
                rintro e wh ⟨rfl, gh⟩
                have gqh := below_via gq gh
                clear hX gh
                go_wp2
                go_roundg (np - (k + 1))
                case measure => omega
                exact ⟨k + 1, rfl, by omega, by simp, gqh⟩
          · go_wp2
            go_ret
            exact ⟨rfl, below_via g1e gq⟩
end Go.Proofs.Qxb6600067a
