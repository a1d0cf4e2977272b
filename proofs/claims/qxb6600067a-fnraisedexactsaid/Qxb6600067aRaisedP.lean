/-
  A raised floor's size and places; ZZRaised.
-/
import Derived.Test.Qxb6600067aRaised
import Derived.Test.Qxb6600067aFloorOf
namespace Go.Proofs.Qxb6600067a
open Go.RowKit

theorem Small.then {fl : List St} {st : St} (h : Small fl) (h1 : st.a < 18446744073709551616) (h2 : st.b < 18446744073709551616) : Small (thenF fl st) := by
  unfold thenF
  split
  · rename_i hc
    intro x hx
    rcases List.mem_or_eq_of_mem_set hx with h' | h'
    · exact h x h'
    · subst h'
      exact ⟨(h _ (stn_mem (i := fl.length - 1) (by omega))).1, h2⟩
  · exact h.snoc h1 h2

theorem left_small {fl : List St} (h : Small fl) (first : Nat) : ∀ k, k ≤ fl.length → Small (leftK fl first k)
  | 0, _ => by intro st hs; simp [leftK] at hs
  | k + 1, hk => by
    rw [leftK_succ (by omega)]
    have hx := h _ (stn_mem (i := k) (by omega))
    split
    · exact (left_small h first k (by omega)).then hx.1 (by show min _ _ < _; omega)
    · exact left_small h first k (by omega)

theorem right_small {mid fl : List St} (h : Small fl) (hm : Small mid) (last : Nat) : ∀ k, k ≤ fl.length → Small (rightK mid fl last k)
  | 0, _ => by simpa [rightK] using hm
  | k + 1, hk => by
    rw [rightK_succ (by omega)]
    have hx := h _ (stn_mem (i := k) (by omega))
    split
    · exact (right_small h hm last k (by omega)).then (by show max _ _ < _; omega) hx.2
    · exact right_small h hm last k (by omega)

theorem raised_small {fl : List St} (h : Small fl) {first last : Nat} (version : Nat) (by' : ByteArray) (h1 : first < 18446744073709551616) (h2 : last < 18446744073709551616) : Small (raisedF fl first last version by') :=
  right_small h ((left_small h first _ (Nat.le_refl _)).then h1 h2) last _ (Nat.le_refl _)

theorem raised_len {fl : List St} (h : Canon fl) {first last version : Nat} (hfl : first ≤ last) (by' : ByteArray) : (raisedF fl first last version by').length ≤ 2 * fl.length + 1 := by
  have h1 := (raised_inv h (version := version) hfl by').len
  have h2 := (left_all h first _ (Nat.le_refl _)).len
  have h3 := (then_len (leftK fl first fl.length) ⟨first, last, topK fl first last version fl.length, by'⟩).1
  unfold raisedF
  omega

set_option maxHeartbeats 400000 in
theorem zraised_any (a : Option Addr) (n c : Nat) (fl : List St) (first last version : Nat) (by' : ByteArray) (w : World) (hS : Steps w a n fl) (hC : Canon fl) (hfl : first ≤ last)
    (hB : Small fl) (hf : first < 18446744073709551616) (hl : last < 18446744073709551616) (l : n ≤ 65536) :
    Calls Try.prog 30 #[.slice a n c, .int .u64 (first : Int), .int .u64 (last : Int), .int .u64 (version : Int), .string by'] w fun e w' => ∃ v', e = .returned v' ∧ w'.ownsRow w.heap.size 55 4 v' (raisedF fl first last version by').length (flatS (raisedF fl first last version by')) ∧ Below w.heap.size w w' := by
  go_enter Try.func30, Try.ntmps30
  go_wp2_with fail
  refine (raised_any a n c fl first last version by' w hS hC hfl (fun st h => (hB st h).2) hf hl l).mono ?_
  rintro e w1 ⟨v', rfl, hown, hb⟩
  have HO := hide hown
  clear hown
  go_wp2
  go_ret
  exact ⟨_, rfl, HO.out, hb⟩

theorem zraised_steps (a : Option Addr) (n c : Nat) (fl : List St) (first last version : Nat) (by' : ByteArray) (w : World) (hS : Steps w a n fl) (hC : Canon fl) (hfl : first ≤ last)
    (hB : Small fl) (hf : first < 18446744073709551616) (hl : last < 18446744073709551616) (l : n ≤ 65536) :
    Calls Try.prog 30 #[.slice a n c, .int .u64 (first : Int), .int .u64 (last : Int), .int .u64 (version : Int), .string by'] w fun e w' => ∃ a' n' c' R, e = .returned (.slice a' n' c') ∧ Steps w' a' n' R ∧ n' ≤ 131073 ∧ Canon R ∧ Small R ∧ (∀ p, cov R p = if p < first ∨ last < p then cov fl p else some (topK fl first last version n, by')) ∧ Below w.heap.size w w' := by
  have hlen := hS.len
  refine (zraised_any a n c fl first last version by' w hS hC hfl hB hf hl l).mono ?_
  rintro e w' ⟨v, rfl, hown, hb⟩
  obtain ⟨a', c', rfl, hS'⟩ := Steps.of_owns hown
  have h1 := raised_len hC (version := version) hfl by'
  exact ⟨a', _, c', _, rfl, hS', by omega, raised_canon hC hfl by', raised_small hB version by' hf hl, (fun p => by rw [raised_cov hC hfl by' p, hlen]), hb⟩

theorem floorOf_steps (a0 a1 a2 a3 : Option Addr) (n0 c0 n1 c1 n2 c2 n3 c3 : Nat) (s0 s1 s2 : List Nat) (s3 : List ByteArray) (w : World) (h0 : U64s w a0 n0 c0 s0) (h1 : U64s w a1 n1 c1 s1) (h2 : U64s w a2 n2 c2 s2) (h3 : Strs w a3 n3 c3 s3) (l3 : n3 ≤ 65536) :
    Calls Try.prog 28 #[.slice a0 n0 c0, .slice a1 n1 c1, .slice a2 n2 c2, .slice a3 n3 c3] w fun e w' => ∃ a' n' c' fl, e = .returned (.slice a' n' c') ∧ Steps w' a' n' fl ∧ Small fl ∧ n' ≤ 65536 ∧ Below w.heap.size w w' := by
  refine (floorOf_any a0 a1 a2 a3 n0 c0 n1 c1 n2 c2 n3 c3 s0 s1 s2 s3 w h0 h1 h2 h3 l3).mono ?_
  rintro e w' ⟨v, fl, rfl, hown, hSm, hl, hb⟩
  obtain ⟨a', c', rfl, hS'⟩ := Steps.of_owns hown
  exact ⟨a', _, c', fl, rfl, hS', hSm, hl, hb⟩

theorem edges_words (a : Option Addr) (n c : Nat) (fl : List St) (v : Value) (pts : List Nat) (w0 w : World) (hS : Steps w0 a n fl) (hb0 : Below w0.heap.size w0 w) (hP : Pts w w0.heap.size v pts) (hB : Small fl) (l : n ≤ 262144) (l2 : pts.length ≤ 524288) :
    Calls Try.prog 32 #[v, .slice a n c] w fun e w' => ∃ a' n' c' pts', e = .returned (.slice a' n' c') ∧ U64s w' a' n' c' pts' ∧ n' ≤ 1048576 ∧ Below w0.heap.size w0 w' := by
  refine (edges_any a n c fl v pts w0 w hS hb0 hP hB l l2).mono ?_
  rintro e w' ⟨v', pts', rfl, hP', hl, hb⟩
  obtain ⟨a', c', rfl, hU⟩ := U64s.of_owns hP'.own hP'.each
  exact ⟨a', _, c', pts', rfl, hU, by omega, hb⟩
end Go.Proofs.Qxb6600067a
