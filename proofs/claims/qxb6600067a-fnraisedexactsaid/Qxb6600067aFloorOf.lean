/-
  floorOf: the walk.
-/
import Derived.Test.Qxb6600067aEdges
import Derived.Deep.DeepCutAuto
import Derived.Deep.RegionHeld3
import Derived.Deep.AppendLies
namespace Go.Proofs.Qxb6600067a
open Go.RowKit

theorem owns_later {w w' : World} {base : Nat} {e : TypeId} {size : Nat} {v : Value} {n : Nat} {xs : List Value} (h : w.ownsRow base e size v n xs) (b : Below w.heap.size w w') : w'.ownsRow base e size v n xs :=
  h.kept (w' := w') (row := none) ⟨b.os, b.tape, b.output, b.size, fun k hk _ => b.block k hk⟩ (by cases Value.ownBlock v <;> simp)

theorem Small.snoc {fl : List St} {x : St} (h : Small fl) (h1 : x.a < 18446744073709551616) (h2 : x.b < 18446744073709551616) : Small (fl ++ [x]) := by
  intro st hs
  rcases List.mem_append.1 hs with h' | h'
  · exact h st h'
  · simp at h'
    subst h'
    exact ⟨h1, h2⟩

/-- 'append(f, s)' at a step of a region that draws its order. -/
theorem step_append_st (w : World) {ops : Array Oper} {o : Oper} {a : Act} {K : Act → World → Prop} {Q : Exit → Act → World → Prop} {E : Prop}
    (hg : o.guard = none) (s x : Operand) (hop : o.op = Op.call { callee := Callee.builtin Builtin.append, args := #[s, x], argTypes := #[48, 48] })
    (base : Nat) (v : Value) (fl : List St) (st : St) (hs : a.eval s = v) (hown : w.ownsRow base 55 4 v fl.length (flatS fl))
    (bk : Nat) (hbk : bk = w.heap.size) (hx : a.eval x = .slice (some ⟨bk, 0, none⟩) 1 1) (b1 : fl.length ≤ 1048576) (b2 : base ≤ w.heap.size)
    (hK : ∀ v' w', w'.ownsRow base 55 4 v' (fl ++ [st]).length (flatS (fl ++ [st])) → Below base w w' → K (a.put o.dst v') w') :
    if Region.wanted o (yielded ops a.tmps) = true then Oper.wp Try.prog o a (w.alloc (.cells #[.int .u64 (st.a : Int), .int .u64 (st.b : Int), .int .u64 (st.v : Int), .string st.s] 55)) K Q else E := by
  obtain ⟨i0, hi, hz0, hz1, hz2⟩ := info_parts info55
  subst hbk
  refine step_append_lies _ hg s x 48 hop base 55 i0 (.agg #[.int .u64 0, .int .u64 0, .int .u64 0, .string ByteArray.empty]) 4 40 Try.underlying48 hi hz0 hz1 hz2 rfl (by decide) v _ _ hs (hown.alloc _) ⟨w.heap.size, 0, none⟩ 1 1 (stC st) hx rfl (four_new w 55 _ _ _ _) (stC_one st) (by omega) (by unfold maxLen; omega) (by omega) (by simp; omega) _ rfl ?_
  intro g cap w' h1 h2 _ _
  exact hK _ w' (by rw [flatS_snoc]; simpa using h1) (((Below.refl base w).alloc b2 _).grown h2 (by simp; omega) (fun k hk => (hown.lt k hk).1))

set_option maxHeartbeats 1000000 in
theorem floorOf_any (a0 a1 a2 a3 : Option Addr) (n0 c0 n1 c1 n2 c2 n3 c3 : Nat) (s0 s1 s2 : List Nat) (s3 : List ByteArray) (w : World) (h0 : U64s w a0 n0 c0 s0) (h1 : U64s w a1 n1 c1 s1) (h2 : U64s w a2 n2 c2 s2) (h3 : Strs w a3 n3 c3 s3) (l3 : n3 ≤ 65536) :
    Calls Try.prog 28 #[.slice a0 n0 c0, .slice a1 n1 c1, .slice a2 n2 c2, .slice a3 n3 c3] w fun e w' => ∃ v' fl, e = .returned v' ∧ w'.ownsRow w.heap.size 55 4 v' fl.length (flatS fl) ∧ Small fl ∧ fl.length ≤ 65536 ∧ Below w.heap.size w w' := by
  go_enter Try.func28, Try.ntmps28
  go_upto_if 17 with (fail)
  go_cut [9] from 18 to 19 (fun v W => ∃ N : Nat, v = .int .i64 N ∧ N ≤ n0 ∧ N ≤ n1 ∧ W = w)
  case first =>
    go_wp2
    all_goals go_meet
    all_goals exact ⟨_, rfl, by omega, by omega, rfl⟩
  case rest =>
    obtain ⟨N1, rfl, m0, m1, hwc⟩ := hcut
    subst hwc
    go_upto_if 23 with (fail)
    obtain ⟨w, hw⟩ : ∃ x, x = wc := ⟨_, rfl⟩
    subst hw
    go_cut [9] from 24 to 25 (fun v W => ∃ N : Nat, v = .int .i64 N ∧ N ≤ N1 ∧ N ≤ n2 ∧ W = w)
    case first =>
      go_wp2
      all_goals go_meet
      all_goals exact ⟨_, rfl, by omega, by omega, rfl⟩
    case rest =>
    obtain ⟨N2, rfl, m2, m3, hwc⟩ := hcut
    subst hwc
    go_upto_if 29 with (fail)
    obtain ⟨w, hw⟩ : ∃ x, x = wc := ⟨_, rfl⟩
    subst hw
    go_cut [9] from 30 to 31 (fun v W => ∃ N : Nat, v = .int .i64 N ∧ N ≤ N2 ∧ N ≤ n3 ∧ W = w)
    case first =>
      go_wp2
      all_goals go_meet
      all_goals exact ⟨_, rfl, by omega, by omega, rfl⟩
    case rest =>
    obtain ⟨N, rfl, m4, m5, hwc⟩ := hcut
    subst hwc
    go_wp2
    go_loopg [10, 11] N (fun gk r i wr => ∃ (k : Nat) (fl : List St), gk = N - k ∧ k ≤ N ∧ i = .int .i64 k ∧ fl.length = k ∧ Hid (Small fl) ∧ wr.ownsRow wc.heap.size 55 4 r fl.length (flatS fl) ∧ Below wc.heap.size wc wr)
    case atStart => exact ⟨0, [], rfl, Nat.zero_le _, rfl, rfl, hide (by intro st h; cases h), World.ownsRow_nil _ _ _ _, Below.refl _ _⟩
    case round =>
      obtain ⟨k, fl, rfl, hk, rfl, hfl, HS, hown, hb⟩ := hrel
      by_cases hlt : k < N
      · have i0 := h0.ix k (by omega)
        have i1 := h1.ix k (by omega)
        have i2 := h2.ix k (by omega)
        have i3 := h3.ix k (by omega)
        have z0 := (h0.later hb).at (show k < n0 by omega)
        have z1 := (h1.later hb).at (show k < n1 by omega)
        have z2 := (h2.later hb).at (show k < n2 by omega)
        have z3 := (h3.later hb).at (show k < n3 by omega)
        have y0 := h0.at (show k < n0 by omega)
        have y1 := h1.at (show k < n1 by omega)
        have y2 := h2.at (show k < n2 by omega)
        have y3 := h3.at (show k < n3 by omega)
        have b0 := h0.small (show k < n0 by omega)
        have b1 := h1.small (show k < n1 by omega)
        have hW := wrapI (n := k + 1) (by omega)
        have hO := owns_later hown ((Below.refl _ _).drew (w := wr))
        have HO := hide hO
        clear hO hown
        generalize nn s0 k = x0 at *
        generalize nn s1 k = x1 at *
        generalize nn s2 k = x2 at *
        generalize nth s3 k = x3 at *
        go_wp2_with fail
        have HL : Hid (fl.length ≤ 1048576) := hide (by omega)
        have HBZ := hide hb.size
        go_region_held3 (fun w' => w'.cell? (adOf a0 k) = some (.int .u64 ((x0 : Nat) : Int)) ∧ w'.cell? (adOf a1 k) = some (.int .u64 ((x1 : Nat) : Int)) ∧ w'.cell? (adOf a2 k) = some (.int .u64 ((x2 : Nat) : Int)) ∧ w'.cell? (adOf a3 k) = some (.string x3))
          (first | go_keep | (refine ⟨cell_later hbX ?_, cell_later hbX ?_, cell_later hbX ?_, cell_later hbX ?_⟩ <;> go_keep) | (exact ⟨cell_later ((below_via hb.drew hbX).trans hbY) y0, cell_later ((below_via hb.drew hbX).trans hbY) y1, cell_later ((below_via hb.drew hbX).trans hbY) y2, cell_later ((below_via hb.drew hbX).trans hbY) y3⟩))
          (first
            | (go_at_call 40; refine (step_any (x0 : Int) (x1 : Int) (x2 : Int) x3 _).mono ?_; rintro e wX ⟨rfl, hbX⟩)
            | (refine step_append_st _ rfl _ _ rfl wc.heap.size u10 fl ⟨x0, x1, x2, x3⟩ rfl (owns_later HO.out hbX) (wX.heap.size) rfl rfl HL.out (Nat.le_trans HBZ.out hbX.size) ?_; intro vY wY hownY hbY))
        have HOY := hide hownY
        have hbZ : Below wc.heap.size wc wY := (below_via hb.drew hbX).trans hbY
        clear hownY hbX hbY z0 z1 z2 z3 y0 y1 y2 y3
        go_wp2
        go_roundg (N - (k + 1))
        case measure => omega
        exact ⟨k + 1, fl ++ [⟨x0, x1, x2, x3⟩], rfl, by omega, by simp, by simp; omega, hide (HS.out.snoc b0 b1), HOY.out, hbZ⟩
      · obtain rfl : k = N := by omega
        have HO := hide hown
        clear hown
        go_wp2
        go_ret
        exact ⟨_, fl, rfl, HO.out, HS.out, by omega, hb⟩
end Go.Proofs.Qxb6600067a
