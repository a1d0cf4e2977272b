/-
  addEdges: the walk.
-/
import Derived.Test.Qxb6600067aCover
namespace Go.Proofs.Qxb6600067a
open Go.RowKit

theorem one_new (w : World) (e : TypeId) (x : Value) : ∀ j q, [x][j]? = some q → (w.alloc (.cells #[x] e)).cell? ((⟨w.heap.size, 0, none⟩ : Addr).add j) = some q := by
  intro j q hq
  match j, hq with
  | 0, hq => simp at hq; subst hq; simp [Addr.add]

/-- A row of words. -/
structure Pts (w : World) (base : Nat) (v : Value) (pts : List Nat) : Prop where
  own : w.ownsRow base 36 1 v pts.length (pts.map uv)
  each : ∀ x ∈ pts, x < 18446744073709551616

theorem Pts.nil (w : World) (base : Nat) : Pts w base (.slice none 0 0) [] := ⟨World.ownsRow_nil _ _ _ _, by simp⟩

/-- 'append(pts, x)', pts the call's own. -/
theorem wpList_append_word (w : World) {ops : Array Oper} {rest : List Oper} {o : Oper} {a : Act} {Q : Exit → Act → World → Prop}
    (hg : o.guard = none) (s x : Operand) (hop : o.op = Op.call { callee := Callee.builtin Builtin.append, args := #[s, x], argTypes := #[43, 43] })
    (base : Nat) (v : Value) (pts : List Nat) (z : Int) (hs : a.eval s = v) (hown : Pts w base v pts)
    (bk : Nat) (hbk : bk = w.heap.size) (hx : a.eval x = .slice (some ⟨bk, 0, none⟩) 1 1) (b1 : pts.length ≤ 1048576) (b2 : base ≤ w.heap.size) (z0 : 0 ≤ z) (z1 : z < 18446744073709551616)
    (hK : ∀ v' pts' w', Pts w' base v' pts' → pts'.length = pts.length + 1 → Below base w w' → wpList Try.prog ops Q rest (a.put o.dst v') w') :
    wpList Try.prog ops Q (o :: rest) a (w.alloc (.cells #[.int .u64 z] 36)) := by
  obtain ⟨i0, hi, hz0, hz1, hz2⟩ := info_parts info36
  subst hbk
  refine wpList_append_own _ hg s x 43 hop base 36 i0 (.int .u64 0) 1 8 Try.underlying43 hi hz0 hz1 hz2 rfl (by decide) v _ _ hs (hown.own.alloc _) ⟨w.heap.size, 0, none⟩ 1 1 [.int .u64 z] hx rfl (one_new w 36 _) (by intro u hu; simp at hu; subst hu; rfl) (by unfold maxLen; omega) (by omega) (by simp; omega) ?_
  intro v' w' h1 h2 _
  refine hK v' (pts ++ [z.toNat]) w' ⟨?_, ?_⟩ (by simp) (((Below.refl base w).alloc b2 _).grown h2 (by simp; omega) (fun k hk => (hown.own.lt k hk).1))
  · have e : ((z.toNat : Nat) : Int) = z := Int.toNat_of_nonneg z0
    simpa [uv, e] using h1
  · intro y hy
    rcases List.mem_append.1 hy with h | h
    · exact hown.each y h
    · simp at h
      omega

set_option maxHeartbeats 1000000 in
set_option maxRecDepth 100000 in
theorem edges_any (a : Option Addr) (n c : Nat) (fl : List St) (v : Value) (pts : List Nat) (w0 w : World) (hS : Steps w0 a n fl) (hb0 : Below w0.heap.size w0 w) (hP : Pts w w0.heap.size v pts) (hB : Small fl) (l : n ≤ 262144) (l2 : pts.length ≤ 524288) :
    Calls Try.prog 32 #[v, .slice a n c] w fun e w' => ∃ v' pts', e = .returned v' ∧ Pts w' w0.heap.size v' pts' ∧ pts'.length ≤ pts.length + 2 * n ∧ Below w0.heap.size w0 w' := by
  have HB := hide hB
  have hlen := hS.len
  clear hB
  go_enter Try.func32, Try.ntmps32
  go_wp2
  go_loopg [0, 5] n (fun gk q i wr => ∃ (k : Nat) (qs : List Nat), gk = n - k ∧ k ≤ n ∧ i = .int .i64 k ∧ Pts wr w0.heap.size q qs ∧ qs.length ≤ pts.length + 2 * k ∧ Below w0.heap.size w0 wr)
  case atStart => exact ⟨0, pts, rfl, Nat.zero_le _, rfl, hP, by omega, hb0⟩
  case round =>
    obtain ⟨k, qs, rfl, hk, rfl, hQ, hql, hb⟩ := hrel
    have HQ := hide hQ
    clear hQ
    by_cases hlt : k < n
    · have hW := wrapI (n := k + 1) (by omega)
      have hI := hS.ix c k hlt
      obtain ⟨c0, c1, c2, c3⟩ := (hS.later hb).at hlt
      have hs := HB.out _ (stn_mem (i := k) (by omega))
      obtain ⟨x, hx⟩ : ∃ x, x = stn fl k := ⟨_, rfl⟩
      rw [← hx] at c0 c1 c2 c3 hs
      obtain ⟨xa, xb, xv, xs⟩ := x
      simp only at c0 c1 c2 c3 hs
      clear hx
      go_wp2_with fail
      refine (parts_any (xa : Int) (xb : Int) (xv : Int) xs _).mono ?_
      rintro e w1 ⟨rfl, g1⟩
      have hb1 := hb.trans (g1.mono hb.size)
      have HQ1 : Hid (Pts w1 w0.heap.size u0 qs) := hide ⟨HQ.out.own.kept (w' := w1) (row := none) ⟨g1.os, g1.tape, g1.output, g1.size, fun k hk _ => g1.block k hk⟩ (by cases Value.ownBlock u0 <;> simp), HQ.out.each⟩
      clear g1 c0 c1 c2 c3
      go_wp2_with (first
        | (at_builtin; refine wpList_append_word _ rfl _ _ rfl w0.heap.size u0 qs _ rfl HQ1.out (w1.heap.size) ?c1 rfl ?c2 ?c3 ?c4 ?c5 ?_)
        | go_in)
      case c1 => rfl
      case c2 => omega
      case c3 => exact hb1.size
      case c4 => omega
      case c5 => omega
      intro v1 q2 w2 hQ2 hl2 hb2
      have hb2' := hb1.trans hb2
      have HQ2 := hide hQ2
      clear hQ2 hb2 HQ1
      by_cases e1 : xb < 18446744073709551615
      · have q1 : decide ((xb : Int) < 18446744073709551615) = true := decide_eq_true (by omega)
        have hU : IntKind.u64.wrap ((xb : Int) + 1) = (xb : Int) + 1 := by have := wrapU (n := xb + 1) (by omega); simpa using this
        go_wp2_with (first
          | (at_builtin; refine wpList_append_word _ rfl _ _ rfl w0.heap.size v1 q2 _ rfl HQ2.out (w2.heap.size) ?c1 rfl ?c2 ?c3 ?c4 ?c5 ?_)
          | go_in)
        case c1 => rfl
        case c2 => omega
        case c3 => exact hb2'.size
        case c4 => omega
        case c5 => omega
        intro v2 q3 w3 hQ3 hl3 hb3
        have hb3' := hb2'.trans hb3
        have HQ3 := hide hQ3
        clear hQ3 hb3
        go_wp2
        go_roundg (n - (k + 1))
        case measure => omega
        exact ⟨k + 1, _, rfl, by omega, by simp, HQ3.out, by omega, hb3'⟩
      · have q1 : decide ((xb : Int) < 18446744073709551615) = false := decide_eq_false (by omega)
        go_wp2
        go_roundg (n - (k + 1))
        case measure => omega
        exact ⟨k + 1, _, rfl, by omega, by simp, HQ2.out, by omega, hb2'⟩
    · obtain rfl : k = n := by omega
      go_wp2
      go_ret
      exact ⟨_, qs, rfl, HQ.out, hql, hb⟩
end Go.Proofs.Qxb6600067a
