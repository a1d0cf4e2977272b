/-
  slices.Grow at a nil slice; slices.Concat of two slices of strings.
-/
import Derived.Test.Qxb6600067aBase
import Derived.Lib.AppendZeros
import Derived.Laws.AppendOwnNone
namespace Go.Proofs.Qxb6600067a
open Go.RowKit

set_option maxHeartbeats 400000 in
theorem grow_any (m : Int) (n : Nat) (w : World) (hm : m = (n : Int)) (hn : n ≤ 4194304) :
    Calls Try.prog 45 #[.slice none 0 0, .int .i64 m] w fun e w' => ∃ v', e = .returned v' ∧ w'.ownsRow w.heap.size 9 1 v' 0 [] ∧ Below w.heap.size w w' := by
  subst hm
  obtain ⟨i0, hi, hz0, hz1, hz2⟩ := info_parts info9
  by_cases h0 : n = 0
  · subst h0
    go_enter Try.func45, Try.ntmps45
    go_wp2
    go_ret
    exact ⟨_, rfl, World.ownsRow_nil _ _ _ _, Below.refl _ _⟩
  · have hp : 0 < n := by omega
    have hr := fun ty => Lib.run_append_nil_zeros (P := Try.prog) w 22 3 ty 9 i0 (.string ByteArray.empty) .i64 .i64 Try.underlying22 Try.underlying3 hi hz0 n hp (by omega) (by omega) (by rw [hz2]; omega)
    have HR := hide hr
    clear hr
    go_enter Try.func45, Try.ntmps45
    go_wp2_with (first
      | (at_builtin; refine Lib.wpList_append_run _ rfl _ _ _ _ rfl _ _ rfl rfl _ _ (HR.out _) ?_)
      | go_in)
    go_ret
    have hge := grownCap_ge w n 0 9
    refine ⟨_, rfl, ?_, ((Below.refl _ _).drew).alloc (Nat.le_refl _) _⟩
    exact World.ownsRow_made w.drew _ _ (Nat.le_refl _) (grownCap_le_maxLen w n 0 9 (by unfold maxLen; omega)) (by simp [size_zeroCells]; omega)

/-- 'append(dst, src...)', both of strings, dst the call's own. -/
theorem wpList_append_strs (w : World) {ops : Array Oper} {rest : List Oper} {o : Oper} {a : Act} {Q : Exit → Act → World → Prop}
    (hg : o.guard = none) (s x : Operand) (hop : o.op = Op.call { callee := Callee.builtin Builtin.append, args := #[s, x], argTypes := #[22, 22] })
    (base : Nat) (v : Value) (n : Nat) (xs : List ByteArray) (hs : a.eval s = v) (hown : w.ownsRow base 9 1 v n (xs.map Value.string)) (ao : Option Addr) (m c : Nat) (ss : List ByteArray) (hx : a.eval x = .slice ao m c)
    (hS : Strs w ao m c ss) (b1 : n + m ≤ 8388608) (b2 : base ≤ w.heap.size)
    (hK : ∀ v' w', w'.ownsRow base 9 1 v' (n + m) ((xs ++ ss).map Value.string) → w.grownBy w' v.ownBlock → (v' = .slice none 0 0 ↔ v = .slice none 0 0 ∧ m = 0) → wpList Try.prog ops Q rest (a.put o.dst v') w') :
    wpList Try.prog ops Q (o :: rest) a w := by
  obtain ⟨i0, hi, hz0, hz1, hz2⟩ := info_parts info9
  have hl := hS.len
  cases ao with
  | some ad =>
    refine wpList_append_own w hg s x 22 hop base 9 i0 (.string ByteArray.empty) 1 16 Try.underlying22 hi hz0 hz1 hz2 rfl (by decide) v n _ hs hown ad m c (ss.map Value.string) hx (by simp; omega) (hS.news ad rfl) (strs_oneCell ss) (by unfold maxLen; omega) (by omega) b2 ?_
    intro v' w' h1 h2 h3
    exact hK v' w' (by rw [List.map_append]; exact h1) h2 h3
  | none =>
    have hm : m = 0 := by
      rcases Nat.eq_zero_or_pos m with h | h
      · exact h
      · obtain ⟨y, hy, _⟩ := hS.cells 0 h
        cases hy
    have hc := hS.nil rfl
    subst hm
    subst hc
    have hss : ss = [] := List.eq_nil_of_length_eq_zero hl
    subst hss
    refine wpList_append_own_none hg s x 22 hop base 9 i0 1 Try.underlying22 hi v n _ hs hown hx ?_
    exact hK v w (by simpa using hown) (World.grownBy.refl _ _) (by simp)

/-- The slice's row is a row of elements of type e. -/
def RowOf (w : World) (a : Option Addr) (e : TypeId) : Prop := ∀ x, a = some x → ∃ cs, w.heap[x.block]? = some (.cells cs e (0, 0))

theorem rowOf_owns {w : World} {base : Nat} {e : TypeId} {size : Nat} {v : Value} {n : Nat} {xs : List Value} (h : w.ownsRow base e size v n xs) {a : Option Addr} {m c : Nat} (hv : v = .slice a m c) : RowOf w a e := by
  intro x hx
  subst hx
  rcases h.2 with ⟨h1, _⟩ | ⟨g, cap, cur, h1, _, hg, _⟩
  · rw [hv] at h1
    cases h1
  · rw [hv] at h1
    cases h1
    exact ⟨cur, hg⟩

theorem RowOf.block {w w' : World} {a : Option Addr} {e : TypeId} (h : RowOf w a e) (hb : ∀ x, a = some x → w'.heap[x.block]? = w.heap[x.block]?) : RowOf w' a e := by
  intro x hx
  obtain ⟨cs, hc⟩ := h x hx
  exact ⟨cs, (hb x hx).trans hc⟩

theorem RowOf.later {w w' : World} {a : Option Addr} {e : TypeId} (h : RowOf w a e) (hb : Below w.heap.size w w') : RowOf w' a e :=
  h.block fun x hx => by
    obtain ⟨cs, hc⟩ := h x hx
    exact hb.block _ (Array.getElem?_eq_some_iff.1 hc).1

theorem RowOf.map {P : Program} {k : TypeId} {w w' : World} {m n : Nat} {f : ByteArray → Option Value} {a : Option Addr} {e : TypeId} (h : RowOf w a e) (hm : MapAt P k w m n f) (hg : w.grownBy w' (some m)) : RowOf w' a e :=
  h.block fun x hx => by
    obtain ⟨cs, hc⟩ := h x hx
    refine hg.block _ (Array.getElem?_eq_some_iff.1 hc).1 (fun e1 => ?_)
    obtain ⟨D, ⟨es, clock, hb, _⟩, _⟩ := hm
    rw [← Option.some.inj e1, hc] at hb
    cases hb

def upN (n0 n1 : Nat) : Nat → Nat | 0 => 0 | 1 => n0 | _ => n0 + n1
def upS (s0 s1 : List ByteArray) : Nat → List ByteArray | 0 => [] | 1 => s0 | _ => s0 ++ s1

set_option maxHeartbeats 1000000 in
theorem concat_any (b : Nat) (a0 a1 : Option Addr) (n0 c0 n1 c1 : Nat) (s0 s1 : List ByteArray) (w : World) (h0 : Strs w a0 n0 c0 s0) (h1 : Strs w a1 n1 c1 s1) (l0 : n0 ≤ 1048576) (l1 : n1 ≤ 1048576)
    (x0 : w.cell? ⟨b, 0, none⟩ = some (.slice a0 n0 c0)) (x1 : w.cell? ⟨b, 1, none⟩ = some (.slice a1 n1 c1)) :
    Calls Try.prog 42 #[.slice (some ⟨b, 0, none⟩) 2 2] w fun e w' => ∃ a c, e = .returned (.slice a (n0 + n1) c) ∧ Strs w' a (n0 + n1) c (s0 ++ s1) ∧ RowOf w' a 9 ∧ Below w.heap.size w w' := by
  obtain ⟨i0, hi, hz0, hz1, hz2⟩ := info_parts info9
  go_enter Try.func42, Try.ntmps42
  go_wp2
  go_loop [3, 11] (fun t i => ∃ k : Nat, k ≤ 2 ∧ i = .int .i64 k ∧ t = .int .i64 (if k = 0 then 0 else if k = 1 then n0 else n0 + n1)) (fun _ i => 2 - (intOf i).toNat)
  case atStart => exact ⟨0, by omega, rfl, rfl⟩
  case round =>
    obtain ⟨k, hk, rfl, rfl⟩ := hrel
    have hk3 : k = 0 ∨ k = 1 ∨ k = 2 := by omega
    rcases hk3 with rfl | rfl | rfl
    · go_wp2
      go_round
      case rel => exact ⟨1, by omega, by go_num, by go_num⟩
      case measure => simp [intOf]
    · go_wp2
      go_round
      case rel => exact ⟨2, by omega, by go_num, by go_num⟩
      case measure => simp [intOf]
    · go_wp2_with fail
      refine (grow_any _ (n0 + n1) w (by simp) (by omega)).mono ?_
      rintro e w1 ⟨v1, rfl, hown1, hb1⟩
      have h0' := h0.later hb1
      have h1' := h1.later hb1
      have x0' := cell_later hb1 x0
      have x1' := cell_later hb1 x1
      go_wp2
      go_loopw [6, 27] (fun t i wr => ∃ k : Nat, k ≤ 2 ∧ i = .int .i64 k ∧ wr.ownsRow w.heap.size 9 1 t (upN n0 n1 k) ((upS s0 s1 k).map Value.string) ∧ Below w.heap.size w wr) (fun _ i _ => 2 - (intOf i).toNat)
      case atStart => exact ⟨0, by omega, rfl, hown1, hb1⟩
      case round =>
        obtain ⟨k, hk, rfl, hown, hbl⟩ := hrel
        have hk3 : k = 0 ∨ k = 1 ∨ k = 2 := by omega
        have h0r := h0.later hbl
        have h1r := h1.later hbl
        have x0r := cell_later hbl x0
        have x1r := cell_later hbl x1
        clear h0' h1' x0' x1'
        have hz := hbl.size
        rcases hk3 with rfl | rfl | rfl
        · have hown' : wr.ownsRow w.heap.size 9 1 _ 0 (([] : List ByteArray).map Value.string) := hown
          clear hown
          go_wp2_with (first
            | (at_builtin; refine wpList_append_strs _ rfl _ _ rfl w.heap.size _ _ _ rfl hown' _ _ _ _ rfl h0r (by omega) hz ?_; intro v' w2 hown2 hg2 _)
            | go_in)
          go_roundw
          case rel => exact ⟨1, by omega, by go_num, by simpa [upN, upS] using hown2, hbl.grown hg2 hz (fun j hj => (hown'.lt j hj).1)⟩
          case measure => simp [intOf]
        · have hown' : wr.ownsRow w.heap.size 9 1 _ n0 (s0.map Value.string) := hown
          clear hown
          go_wp2_with (first
            | (at_builtin; refine wpList_append_strs _ rfl _ _ rfl w.heap.size _ _ _ rfl hown' _ _ _ _ rfl h1r (by omega) hz ?_; intro v' w2 hown2 hg2 _)
            | go_in)
          go_roundw
          case rel => exact ⟨2, by omega, by go_num, by simpa [upN, upS] using hown2, hbl.grown hg2 hz (fun j hj => (hown'.lt j hj).1)⟩
          case measure => simp [intOf]
        · have hown' : wr.ownsRow w.heap.size 9 1 _ (n0 + n1) ((s0 ++ s1).map Value.string) := hown
          clear hown
          go_wp2
          go_ret
          obtain ⟨a, c, e, hS⟩ := Strs.of_owns hown' (fun s hs => by rcases List.mem_append.1 hs with h | h; exact h0.each s h; exact h1.each s h)
          exact ⟨a, c, congrArg Ending.returned e, hS, rowOf_owns hown' e, hbl⟩
end Go.Proofs.Qxb6600067a
