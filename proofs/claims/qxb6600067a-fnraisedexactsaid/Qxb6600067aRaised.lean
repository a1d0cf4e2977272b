/-
  (floor).raised: the walk.
-/
import Derived.Test.Qxb6600067aThen
namespace Go.Proofs.Qxb6600067a
open Go.RowKit

set_option maxHeartbeats 1000000 in
theorem raised_any (a : Option Addr) (n c : Nat) (fl : List St) (first last version : Nat) (by' : ByteArray) (w : World) (hS : Steps w a n fl) (hC : Canon fl) (hfl : first ≤ last)
    (hB : ∀ st ∈ fl, st.b < 18446744073709551616) (hf : first < 18446744073709551616) (hl : last < 18446744073709551616) (l : n ≤ 65536) :
    Calls Try.prog 41 #[.slice a n c, .int .u64 (first : Int), .int .u64 (last : Int), .int .u64 (version : Int), .string by'] w fun e w' => ∃ v', e = .returned v' ∧ w'.ownsRow w.heap.size 55 4 v' (raisedF fl first last version by').length (flatS (raisedF fl first last version by')) ∧ Below w.heap.size w w' := by
  have HC := hide hC
  have HB := hide hB
  have hlen := hS.len
  clear hC hB
  go_enter Try.func41, Try.ntmps41
  go_wp2
  go_loopg [3, 20] n (fun gk vv i wr => ∃ k : Nat, gk = n - k ∧ k ≤ n ∧ vv = .int .u64 ((topK fl first last version k : Nat) : Int) ∧ i = .int .i64 k ∧ Below w.heap.size w wr)
  case atStart => exact ⟨0, rfl, Nat.zero_le _, rfl, rfl, Below.refl _ _⟩
  case round =>
    obtain ⟨k, rfl, hk, rfl, rfl, hb⟩ := hrel
    by_cases hlt : k < n
    · have hW := wrapI (n := k + 1) (by omega)
      have hI := hS.ix c k hlt
      obtain ⟨c0, c1, c2, c3⟩ := (hS.later hb).at hlt
      have HT := hide (topK_succ (fl := fl) (first := first) (last := last) (version := version) (k := k) (by omega))
      generalize topK fl first last version k = t at *
      obtain ⟨x, hx⟩ : ∃ x, x = stn fl k := ⟨_, rfl⟩
      rw [← hx] at c0 c1 c2 c3 HT
      obtain ⟨xa, xb, xv, xs⟩ := x
      simp only at c0 c1 c2 c3
      by_cases e1 : xa ≤ last
      · have q1 : decide ((xa : Int) ≤ (last : Int)) = true := by simp; omega
        by_cases e2 : first ≤ xb
        · have q2 : decide ((first : Int) ≤ (xb : Int)) = true := by simp; omega
          by_cases e3 : t < xv
          · have q3 : (t : Int) < (xv : Int) := by omega
            go_wp2
            go_roundg (n - (k + 1))
            case measure => omega
            refine ⟨k + 1, rfl, by omega, ?_, by simp, hb.alloc hb.size _⟩
            rw [HT.out, if_pos ⟨e1, e2⟩]
            congr 1
            omega
          · have q3 : ¬ (t : Int) < (xv : Int) := by omega
            go_wp2
            go_roundg (n - (k + 1))
            case measure => omega
            refine ⟨k + 1, rfl, by omega, ?_, by simp, hb.alloc hb.size _⟩
            rw [HT.out, if_pos ⟨e1, e2⟩]
            congr 1
            omega
        · have q2 : decide ((first : Int) ≤ (xb : Int)) = false := by simp; omega
          go_wp2
          go_roundg (n - (k + 1))
          case measure => omega
          refine ⟨k + 1, rfl, by omega, ?_, by simp, hb.alloc hb.size _⟩
          rw [HT.out]
          simp [e1, e2]
      · have q1 : decide ((xa : Int) ≤ (last : Int)) = false := by simp; omega
        go_wp2
        go_roundg (n - (k + 1))
        case measure => omega
        refine ⟨k + 1, rfl, by omega, ?_, by simp, hb.alloc hb.size _⟩
        rw [HT.out]
        simp [e1]
    · obtain rfl : k = n := by omega
      obtain ⟨w1, hw1⟩ : ∃ x, x = wr := ⟨_, rfl⟩
      subst hw1
      generalize hT : topK fl first last version k = t at *
      have HTt := hide hT
      clear hT hlt hk
      obtain ⟨n, hn⟩ : ∃ x, x = k := ⟨_, rfl⟩
      subst hn
      go_wp2
      go_loopg [13, 41] n (fun gk r i wq => ∃ k : Nat, gk = n - k ∧ k ≤ n ∧ i = .int .i64 k ∧ wq.ownsRow w.heap.size 55 4 r (leftK fl first k).length (flatS (leftK fl first k)) ∧ Below w.heap.size w wq)
      case atStart => exact ⟨0, rfl, Nat.zero_le _, rfl, World.ownsRow_nil _ _ _ _, hb⟩
      case round =>
        obtain ⟨k, rfl, hk, rfl, hown, hbq⟩ := hrel
        by_cases hlt : k < n
        · have hW := wrapI (n := k + 1) (by omega)
          have hI := hS.ix c k hlt
          obtain ⟨c0, c1, c2, c3⟩ := (hS.later hbq).at hlt
          have HT := hide (leftK_succ (fl := fl) (first := first) (k := k) (by omega))
          have HA := hide (left_ahead HC.out (k := k) (by omega) (left_all HC.out first k (by omega)))
          have HL := hide (left_all HC.out first k (by omega)).len
          have hxb := HB.out _ (stn_mem (i := k) (by omega))
          have hxl := HC.out.le _ (stn_mem (i := k) (by omega))
          have HOWN := hide hown
          obtain ⟨x, hx⟩ : ∃ x, x = stn fl k := ⟨_, rfl⟩
          rw [← hx] at c0 c1 c2 c3 HT HA hxb hxl
          obtain ⟨xa, xb, xv, xs⟩ := x
          simp only at c0 c1 c2 c3 hxb hxl
          clear hx hown
          by_cases e1 : xa < first
          · have q1 : decide ((xa : Int) < (first : Int)) = true := by simp; omega
            have hU : IntKind.u64.wrap ((first : Int) - 1) = (first : Int) - 1 := by have := wrapU (n := first - 1) (by omega); rwa [show ((first - 1 : Nat) : Int) = (first : Int) - 1 by omega] at this
            by_cases e2 : first - 1 < xb
            · have q2 : (first : Int) - 1 < (xb : Int) := by omega
              go_wp2_with fail
              have hX := then_any w.heap.size u13 (leftK fl first k) ⟨xa, first - 1, xv, xs⟩ (wr.alloc (.cells #[.int .u64 (xa : Int), .int .u64 ((first - 1 : Nat) : Int), .int .u64 (xv : Int), .string xs] 55)) (HOWN.out.alloc _) (by have := hbq.size; simp; omega) HA.out (by have := HL.out; omega) (by show xa < _; omega)
              simp only [show ((first - 1 : Nat) : Int) = (first : Int) - 1 by omega] at hX
              refine hX.mono ?_
              rintro e w3 ⟨v', rfl, hown3, hb3, hs3⟩
              have hT : leftK fl first (k + 1) = thenF (leftK fl first k) ⟨xa, first - 1, xv, xs⟩ := by rw [HT.out, if_pos e1, Nat.min_eq_right (by omega)]
              rw [← hT] at hown3
              have HO3 := hide hown3
              have HT3 := hide hT
              clear hown3 hT hX
              go_wp2
              go_roundg (n - (k + 1))
              case measure => omega
              exact ⟨k + 1, rfl, by omega, by simp, HO3.out, (hbq.alloc hbq.size _).trans hb3⟩
            · have q2 : ¬ (first : Int) - 1 < (xb : Int) := by omega
              go_wp2_with fail
              have hX := then_any w.heap.size u13 (leftK fl first k) ⟨xa, xb, xv, xs⟩ (wr.alloc (.cells #[.int .u64 (xa : Int), .int .u64 (xb : Int), .int .u64 (xv : Int), .string xs] 55)) (HOWN.out.alloc _) (by have := hbq.size; simp; omega) HA.out (by have := HL.out; omega) (by show xa < _; omega)
              refine hX.mono ?_
              rintro e w3 ⟨v', rfl, hown3, hb3, hs3⟩
              have hT : leftK fl first (k + 1) = thenF (leftK fl first k) ⟨xa, xb, xv, xs⟩ := by rw [HT.out, if_pos e1, Nat.min_eq_left (by omega)]
              rw [← hT] at hown3
              have HO3 := hide hown3
              have HT3 := hide hT
              clear hown3 hT hX
              go_wp2
              go_roundg (n - (k + 1))
              case measure => omega
              exact ⟨k + 1, rfl, by omega, by simp, HO3.out, (hbq.alloc hbq.size _).trans hb3⟩
          · have q1 : decide ((xa : Int) < (first : Int)) = false := by simp; omega
            go_wp2
            go_roundg (n - (k + 1))
            case measure => omega
            refine ⟨k + 1, rfl, by omega, by simp, ?_, hbq.alloc hbq.size _⟩
            rw [HT.out, if_neg e1]
            exact HOWN.out.alloc _
        · obtain rfl : k = n := by omega
          obtain ⟨w2, hw2⟩ : ∃ x, x = wr := ⟨_, rfl⟩
          subst hw2
          have HL := hide (left_all HC.out first k (by omega))
          have HOWN := hide hown
          clear hlt hk hown
          obtain ⟨n, hn⟩ : ∃ x, x = k := ⟨_, rfl⟩
          subst hn
          go_wp2_with fail
          refine (then_any w.heap.size u13 (leftK fl first n) ⟨first, last, t, by'⟩ _ HOWN.out hbq.size (fun h => (HL.out.low h).1) (by have := HL.out.len; omega) hf).mono ?_
          rintro e w3 ⟨v0, rfl, hown3, hb3, hs3⟩
          have hb4 := hbq.trans hb3
          obtain ⟨mid, hmid⟩ : ∃ x, x = thenF (leftK fl first n) ⟨first, last, t, by'⟩ := ⟨_, rfl⟩
          have HR : Hid (∀ k, k ≤ fl.length → RightInv mid fl first last (t, by') k) := hide (by
            have := right_start (top := t) hfl by' (left_all HC.out first _ (Nat.le_refl _))
            rw [hlen, ← hmid] at this
            exact right_all HC.out hfl this)
          have HML : Hid (mid.length ≤ n + 1) := hide (by have h1 := then_len (leftK fl first n) ⟨first, last, t, by'⟩; have h2 := HL.out.len; rw [hmid]; omega)
          have HRF : Hid (rightK mid fl last n = raisedF fl first last version by') := hide (by unfold raisedF; rw [hlen, HTt.out, hmid])
          have HO3 : Hid (w3.ownsRow w.heap.size 55 4 v0 mid.length (flatS mid)) := hide (by rw [hmid]; exact hown3)
          clear hown3 hb3 hs3 hmid HL HOWN
          go_wp2
          go_loopg [13, 68] n (fun gk r i wq => ∃ k : Nat, gk = n - k ∧ k ≤ n ∧ i = .int .i64 k ∧ wq.ownsRow w.heap.size 55 4 r (rightK mid fl last k).length (flatS (rightK mid fl last k)) ∧ Below w.heap.size w wq)
          case atStart => exact ⟨0, rfl, Nat.zero_le _, rfl, by simpa [rightK] using HO3.out, hb4⟩
          case round =>
            obtain ⟨k, rfl, hk, rfl, hown, hbq⟩ := hrel
            by_cases hlt : k < n
            · have hW := wrapI (n := k + 1) (by omega)
              have hI := hS.ix c k hlt
              obtain ⟨c0, c1, c2, c3⟩ := (hS.later hbq).at hlt
              have HT := hide (rightK_succ (mid := mid) (fl := fl) (last := last) (k := k) (by omega))
              have HA := hide (right_ahead HC.out (k := k) (by omega) (HR.out k (by omega)))
              have HL := hide (HR.out k (by omega)).len
              have hxb := HB.out _ (stn_mem (i := k) (by omega))
              have hxl := HC.out.le _ (stn_mem (i := k) (by omega))
              have HOWN := hide hown
              obtain ⟨x, hx⟩ : ∃ x, x = stn fl k := ⟨_, rfl⟩
              rw [← hx] at c0 c1 c2 c3 HT HA hxb hxl
              obtain ⟨xa, xb, xv, xs⟩ := x
              simp only at c0 c1 c2 c3 hxb hxl
              clear hx hown
              by_cases e1 : last < xb
              · have q1 : decide ((last : Int) < (xb : Int)) = true := by simp; omega
                have hU : IntKind.u64.wrap ((last : Int) + 1) = (last : Int) + 1 := by have := wrapU (n := last + 1) (by omega); simpa using this
                by_cases e2 : xa < last + 1
                · have q2 : (xa : Int) < (last : Int) + 1 := by omega
                  go_wp2_with fail
                  have hX := then_any w.heap.size u13 (rightK mid fl last k) ⟨last + 1, xb, xv, xs⟩ (wr.alloc (.cells #[.int .u64 ((last + 1 : Nat) : Int), .int .u64 (xb : Int), .int .u64 (xv : Int), .string xs] 55)) (HOWN.out.alloc _) (by have := hbq.size; simp; omega) (fun _ => by have := HA.out; simp only at this ⊢; omega) (by have h1 := HL.out; have h2 := HML.out; omega) (by show last + 1 < _; omega)
                  simp only [show ((last + 1 : Nat) : Int) = (last : Int) + 1 by omega] at hX
                  refine hX.mono ?_
                  rintro e w3 ⟨v', rfl, hown3, hb3, hs3⟩
                  have hT : rightK mid fl last (k + 1) = thenF (rightK mid fl last k) ⟨last + 1, xb, xv, xs⟩ := by rw [HT.out, if_pos e1, Nat.max_eq_right (by omega)]
                  rw [← hT] at hown3
                  have HO5 := hide hown3
                  have HT3 := hide hT
                  clear hown3 hT hX
                  go_wp2
                  go_roundg (n - (k + 1))
                  case measure => omega
                  exact ⟨k + 1, rfl, by omega, by simp, HO5.out, (hbq.alloc hbq.size _).trans hb3⟩
                · have q2 : ¬ (xa : Int) < (last : Int) + 1 := by omega
                  go_wp2_with fail
                  have hX := then_any w.heap.size u13 (rightK mid fl last k) ⟨xa, xb, xv, xs⟩ (wr.alloc (.cells #[.int .u64 (xa : Int), .int .u64 (xb : Int), .int .u64 (xv : Int), .string xs] 55)) (HOWN.out.alloc _) (by have := hbq.size; simp; omega) (fun _ => by have := HA.out; simp only at this ⊢; omega) (by have h1 := HL.out; have h2 := HML.out; omega) (by show xa < _; omega)
                  refine hX.mono ?_
                  rintro e w3 ⟨v', rfl, hown3, hb3, hs3⟩
                  have hT : rightK mid fl last (k + 1) = thenF (rightK mid fl last k) ⟨xa, xb, xv, xs⟩ := by rw [HT.out, if_pos e1, Nat.max_eq_left (by omega)]
                  rw [← hT] at hown3
                  have HO5 := hide hown3
                  have HT3 := hide hT
                  clear hown3 hT hX
                  go_wp2
                  go_roundg (n - (k + 1))
                  case measure => omega
                  exact ⟨k + 1, rfl, by omega, by simp, HO5.out, (hbq.alloc hbq.size _).trans hb3⟩
              · have q1 : decide ((last : Int) < (xb : Int)) = false := by simp; omega
                go_wp2
                go_roundg (n - (k + 1))
                case measure => omega
                refine ⟨k + 1, rfl, by omega, by simp, ?_, hbq.alloc hbq.size _⟩
                rw [HT.out, if_neg e1]
                exact HOWN.out.alloc _
            · obtain rfl : k = n := by omega
              rw [HRF.out] at hown
              have HOWN := hide hown
              clear hown hlt
              go_wp2
              go_ret
              exact ⟨_, rfl, HOWN.out, hbq⟩
end Go.Proofs.Qxb6600067a
