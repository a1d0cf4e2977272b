/-
  (floor).then: the walk.
-/
import Derived.Test.Qxb6600067aFloorM
import Derived.Lib.SmallJoins
namespace Go.Proofs.Qxb6600067a
open Go.RowKit

theorem beq_toList (a b : ByteArray) : (a.toList == b.toList) = decide (a = b) := by
  by_cases h : a = b
  · simp [h]
  · have : a.toList ≠ b.toList := fun e => h (lit_inj (by rw [← ByteArray.toList_eq, ← ByteArray.toList_eq, e]))
    simp [h, this]
theorem beq_of_eq {a b : ByteArray} (h : a = b) : (a.toList == b.toList) = true := by rw [beq_toList]; simp [h]
theorem beq_of_ne {a b : ByteArray} (h : a ≠ b) : (a.toList == b.toList) = false := by rw [beq_toList]; simp [h]

theorem four_new (w : World) (e : TypeId) (x y z u : Value) : ∀ j q, [x, y, z, u][j]? = some q → (w.alloc (.cells #[x, y, z, u] e)).cell? ((⟨w.heap.size, 0, none⟩ : Addr).add j) = some q := by
  intro j q hq
  match j, hq with
  | 0, hq => simp at hq; subst hq; simp [Addr.add]
  | 1, hq => simp at hq; subst hq; simp [Addr.add]
  | 2, hq => simp at hq; subst hq; simp [Addr.add]
  | 3, hq => simp at hq; subst hq; simp [Addr.add]

theorem stC_one (st : St) : ∀ u ∈ stC st, u.oneCell' = true := by
  intro u hu
  simp [stC] at hu
  rcases hu with rfl | rfl | rfl | rfl <;> rfl

theorem owns_drewN {w : World} {base : Nat} {e : TypeId} {size : Nat} {v : Value} {n : Nat} {xs : List Value} (h : w.ownsRow base e size v n xs) (q : Nat) : (w.drewN q).ownsRow base e size v n xs :=
  have b := below_drewN (Below.refl w.heap.size w) q
  h.kept (w' := w.drewN q) (row := none) ⟨b.os, b.tape, b.output, b.size, fun k hk _ => b.block k hk⟩ (by cases Value.ownBlock v <;> simp)

/-- 'append(f, s)', f the call's own. -/
theorem wpList_append_step (w : World) {ops : Array Oper} {rest : List Oper} {o : Oper} {a : Act} {Q : Exit → Act → World → Prop}
    (hg : o.guard = none) (s x : Operand) (hop : o.op = Op.call { callee := Callee.builtin Builtin.append, args := #[s, x], argTypes := #[48, 48] })
    (base : Nat) (v : Value) (fl : List St) (st : St) (hs : a.eval s = v) (hown : w.ownsRow base 55 4 v fl.length (flatS fl))
    (bk : Nat) (hbk : bk = w.heap.size) (hx : a.eval x = .slice (some ⟨bk, 0, none⟩) 1 1) (b1 : fl.length ≤ 1048576) (b2 : base ≤ w.heap.size)
    (hK : ∀ v' w', w'.ownsRow base 55 4 v' (fl ++ [st]).length (flatS (fl ++ [st])) → Below base w w' → w.heap.size ≤ w'.heap.size → wpList Try.prog ops Q rest (a.put o.dst v') w') :
    wpList Try.prog ops Q (o :: rest) a (w.alloc (.cells #[.int .u64 (st.a : Int), .int .u64 (st.b : Int), .int .u64 (st.v : Int), .string st.s] 55)) := by
  obtain ⟨i0, hi, hz0, hz1, hz2⟩ := info_parts info55
  subst hbk
  refine wpList_append_own _ hg s x 48 hop base 55 i0 (.agg #[.int .u64 0, .int .u64 0, .int .u64 0, .string ByteArray.empty]) 4 40 Try.underlying48 hi hz0 hz1 hz2 rfl (by decide) v _ _ hs (hown.alloc _) ⟨w.heap.size, 0, none⟩ 1 1 (stC st) hx rfl (four_new w 55 _ _ _ _) (stC_one st) (by unfold maxLen; omega) (by omega) (by simp; omega) ?_
  intro v' w' h1 h2 _
  refine hK v' w' (by rw [flatS_snoc]; simpa using h1) (((Below.refl base w).alloc b2 _).grown h2 (by simp; omega) (fun k hk => (hown.lt k hk).1)) ?_
  have := h2.size
  simp at this
  omega

theorem wrapI {n : Nat} (h : n < 4611686018427387904) : IntKind.i64.wrap (n : Int) = n := by
  simp [IntKind.wrap, IntKind.bits, IntKind.signed]; omega
theorem wrapU {n : Nat} (h : n < 18446744073709551616) : IntKind.u64.wrap (n : Int) = n := by
  simp [IntKind.wrap, IntKind.bits, IntKind.signed]; omega
theorem ix48 (g cap n i : Nat) (h : i < n) (W : World) : (Instr.indexAt 48 (.slice (some ⟨g, 0, none⟩) n cap) (.int .i64 (i : Int))).run Try.prog W = .ok (.pointer (some ⟨g, i * 4, none⟩)) W := by
  have h0 : (0 : Int) ≤ (i : Int) := by omega
  have h1 : ¬ n ≤ i := by omega
  simp [Instr.indexAt, run_underlying Try.underlying48, asIntOf, h0, h1, Result.andThen, Addr.add_lit]

set_option maxHeartbeats 1000000 in
theorem then_any (base : Nat) (v : Value) (fl : List St) (st : St) (w : World) (hown : w.ownsRow base 55 4 v fl.length (flatS fl)) (hb : base ≤ w.heap.size) (hl : 0 < fl.length → (lastS fl).b < st.a) (hn : fl.length ≤ 262144) (hbd : st.a < 18446744073709551616) :
    Calls Try.prog 44 #[v, .agg #[.int .u64 (st.a : Int), .int .u64 (st.b : Int), .int .u64 (st.v : Int), .string st.s]] w fun e w' => ∃ v', e = .returned v' ∧ w'.ownsRow base 55 4 v' (thenF fl st).length (flatS (thenF fl st)) ∧ Below base w w' ∧ w.heap.size ≤ w'.heap.size := by
  rcases Nat.eq_zero_or_pos fl.length with h0 | h0
  · have hnil : fl = [] := List.eq_nil_of_length_eq_zero h0
    subst hnil
    have hT : thenF [] st = [st] := rfl
    rw [hT]
    obtain ⟨a, c, rfl, hS⟩ := Steps.of_owns hown
    have HO := hide hown
    clear hT hown hl hS
    go_enter Try.func44, Try.ntmps44
    go_wp2
    go_quiet (fail)
    go_wp2_with (first
      | (at_builtin; refine wpList_append_step _ rfl _ _ rfl base _ [] st rfl (owns_drewN (HO.out.alloc _) _) (w.heap.size + 1) ?c1 rfl ?c2 ?c3 ?_)
      | go_in)
    case c1 => simp
    case c2 => simp
    case c3 => simp; omega
    intro v' w2 hown2 hb2 hs2
    have hbb : Below base w w2 := (below_drewN ((Below.refl base w).alloc hb _) _).trans hb2
    have hsz : w.heap.size ≤ w2.heap.size := Nat.le_trans (by simp) hs2
    clear hb2 hs2
    go_wp2
    go_ret
    exact ⟨v', rfl, hown2, hbb, hsz⟩
  · obtain ⟨g, cap, hv⟩ := Joins.ownsRow_form hown h0
    subst hv
    obtain ⟨m, hm⟩ : ∃ m, fl.length = m + 1 := ⟨fl.length - 1, by omega⟩
    have hL : lastS fl = stn fl m := by unfold lastS; rw [hm]; simp
    obtain ⟨f0, f1, f2, f3⟩ := flatS_get (fl := fl) (i := m) (by omega)
    rw [← hL] at f0 f1 f2 f3
    have hlt := hl h0
    have hlen : (flatS fl).length = fl.length * 4 := flatS_len fl
    have o1 := hown.alloc (.cells #[.int .u64 (st.a : Int), .int .u64 (st.b : Int), .int .u64 (st.v : Int), .string st.s] 55)
    have c1 := o1.cellAt (m * 4 + 1) (by omega)
    have c2 := o1.cellAt (m * 4 + 2) (by omega)
    have c3 := o1.cellAt (m * 4 + 3) (by omega)
    have c4 := o1.frozenAt (m * 4 + 1)
    rw [f1] at c1
    rw [f2] at c2
    rw [f3] at c3
    have HO : Hid (w.ownsRow base 55 4 (.slice (some ⟨g, 0, none⟩) (m + 1) cap) fl.length (flatS fl)) := hide (by have h := hown; rw [hm] at h; rw [hm]; exact h)
    have HM := hide hm
    clear o1 f0 f1 f2 f3 hlen hl hL
    revert hlt c1 c2 c3
    generalize hx : lastS fl = x
    intro hlt c1 c2 c3
    have HX := hide hx
    obtain ⟨xa, xb, xv, xs⟩ := x
    simp only at c1 c2 c3 hlt
    rw [hm]
    have hW := wrapI (n := m) (by omega)
    have hU : IntKind.u64.wrap ((xb : Int) + 1) = (xb : Int) + 1 := by have := wrapU (n := xb + 1) (by omega); simpa using this
    have hI := ix48 g cap (m + 1) m (by omega)
    have p0 : (0 : Int) < (m : Int) + 1 := by omega
    have p1 : (m : Int) < (m : Int) + 1 := by omega
    clear hx hm hown
    by_cases e1 : xb + 1 = st.a
    · have q1 : (((xb : Int) + 1) == (st.a : Int)) = true := by simp; omega
      by_cases e2 : xv = st.v
      · have q2 : ((xv : Int) == (st.v : Int)) = true := by simp; omega
        by_cases e3 : xs = st.s
        · have q3 := beq_of_eq e3
          have hT : thenF fl st = fl.set m ⟨xa, st.b, xv, xs⟩ := by
            unfold thenF
            rw [if_pos]
            · rw [HX.out, HM.out]; rfl
            · exact ⟨by have := HM.out; omega, joins_iff.2 (by rw [HX.out]; exact ⟨e1, e2, e3⟩)⟩
          have HT := hide hT
          clear hT
          go_enter Try.func44, Try.ntmps44
          go_wp2
          go_quiet (fail)
          go_wp2
          go_ret
          have hO := (owns_drewN (HO.out.alloc (.cells #[.int .u64 (st.a : Int), .int .u64 (st.b : Int), .int .u64 (st.v : Int), .string st.s] 55)) nq)
          have hm := HM.out
          rw [hm] at hO
          have hS := (hO.stored (m * 4 + 1) (.int .u64 (st.b : Int))).1
          rw [flatS_set (by omega), show stn fl m = lastS fl by unfold lastS; rw [hm]; rfl, HX.out] at hS
          refine ⟨_, rfl, ?_, (below_drewN ((Below.refl base w).alloc hb _) _).setCell (HO.out.lt g rfl).1 _, ?_⟩
          · rw [HT.out]
            simp only [List.length_set, hm]
            exact hS
          · simp [World.setCell]
        · have q3 := beq_of_ne e3
          have hT : thenF fl st = fl ++ [st] := by
            unfold thenF
            rw [if_neg]
            intro h
            have h2 := joins_iff.1 h.2
            rw [HX.out] at h2
            exact e3 h2.2.2
          rw [hT]
          have HT := hide hT
          clear hT
          go_enter Try.func44, Try.ntmps44
          go_wp2
          go_quiet (fail)
          go_wp2_with (first
            | (at_builtin; refine wpList_append_step _ rfl _ _ rfl base _ fl st rfl (owns_drewN (HO.out.alloc _) _) (w.heap.size + 1) ?c1 rfl ?c2 ?c3 ?_)
            | go_in)
          case c1 => simp
          case c2 => have := HM.out; omega
          case c3 => simp; omega
          intro v' w2 hown2 hb2 hs2
          have hbb : Below base w w2 := (below_drewN ((Below.refl base w).alloc hb _) _).trans hb2
          have hsz : w.heap.size ≤ w2.heap.size := Nat.le_trans (by simp) hs2
          clear hb2 hs2
          go_wp2
          go_ret
          exact ⟨v', rfl, by simpa using hown2, hbb, hsz⟩

      · have q2 : ((xv : Int) == (st.v : Int)) = false := by simp; omega
        have hT : thenF fl st = fl ++ [st] := by
          unfold thenF
          rw [if_neg]
          intro h
          have h2 := joins_iff.1 h.2
          rw [HX.out] at h2
          exact e2 h2.2.1
        rw [hT]
        have HT := hide hT
        clear hT
        go_enter Try.func44, Try.ntmps44
        go_wp2
        go_quiet (fail)
        go_wp2_with (first
          | (at_builtin; refine wpList_append_step _ rfl _ _ rfl base _ fl st rfl (owns_drewN (HO.out.alloc _) _) (w.heap.size + 1) ?c1 rfl ?c2 ?c3 ?_)
          | go_in)
        case c1 => simp
        case c2 => have := HM.out; omega
        case c3 => simp; omega
        intro v' w2 hown2 hb2 hs2
        have hbb : Below base w w2 := (below_drewN ((Below.refl base w).alloc hb _) _).trans hb2
        have hsz : w.heap.size ≤ w2.heap.size := Nat.le_trans (by simp) hs2
        clear hb2 hs2
        go_wp2
        go_ret
        exact ⟨v', rfl, by simpa using hown2, hbb, hsz⟩

    · have q1 : (((xb : Int) + 1) == (st.a : Int)) = false := by simp; omega
      have hT : thenF fl st = fl ++ [st] := by
        unfold thenF
        rw [if_neg]
        intro h
        have h2 := joins_iff.1 h.2
        rw [HX.out] at h2
        exact e1 h2.1
      rw [hT]
      have HT := hide hT
      clear hT
      go_enter Try.func44, Try.ntmps44
      go_wp2
      go_quiet (fail)
      go_wp2_with (first
        | (at_builtin; refine wpList_append_step _ rfl _ _ rfl base _ fl st rfl (owns_drewN (HO.out.alloc _) _) (w.heap.size + 1) ?c1 rfl ?c2 ?c3 ?_)
        | go_in)
      case c1 => simp
      case c2 => have := HM.out; omega
      case c3 => simp; omega
      intro v' w2 hown2 hb2 hs2
      have hbb : Below base w w2 := (below_drewN ((Below.refl base w).alloc hb _) _).trans hb2
      have hsz : w.heap.size ≤ w2.heap.size := Nat.le_trans (by simp) hs2
      clear hb2 hs2
      go_wp2
      go_ret
      exact ⟨v', rfl, by simpa using hown2, hbb, hsz⟩

end Go.Proofs.Qxb6600067a
