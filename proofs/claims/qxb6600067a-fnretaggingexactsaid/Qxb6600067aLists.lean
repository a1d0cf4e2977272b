/-
  Plain facts on tables of names.
-/
import Derived.Test.Qxb6600067aWithAll
namespace Go.Proofs.Qxb6600067a
open Go.RowKit

theorem atIdx_mem {L : List ByteArray} {s : ByteArray} {i : Nat} (hw : Well L) (hi : i < L.length) (h : nth L i = s) : atIdx L s = i := by
  rw [← h]; exact hw i hi

/-- No name stands twice. -/
theorem well_inj {L : List ByteArray} (hw : Well L) {i j : Nat} (hi : i < L.length) (hj : j < L.length) (h : nth L i = nth L j) : i = j := by
  have h1 := hw i hi
  have h2 := hw j hj
  rw [h] at h1
  omega

theorem well_of_inj {L : List ByteArray} (h : ∀ i j, i < L.length → j < L.length → nth L i = nth L j → i = j) : Well L := by
  intro i hi
  obtain ⟨h1, h2, h3⟩ := atIdx_lt (nth_mem hi)
  have := h (atIdx L (nth L i)).toNat i (by omega) hi h3
  omega

theorem nth_append_left {A B : List ByteArray} {i : Nat} (h : i < A.length) : nth (A ++ B) i = nth A i := by
  simp [nth, List.getD, List.getElem?_append_left h]

theorem nth_append_right {A B : List ByteArray} {i : Nat} (h : A.length ≤ i) : nth (A ++ B) i = nth B (i - A.length) := by
  simp [nth, List.getD, List.getElem?_append_right h]

theorem mem_nth {L : List ByteArray} {s : ByteArray} (h : s ∈ L) : ∃ i, i < L.length ∧ nth L i = s := by
  obtain ⟨h1, h2, h3⟩ := atIdx_lt h
  exact ⟨_, by omega, h3⟩

theorem nodup_iff {L : List ByteArray} : L.Nodup ↔ Well L := by
  constructor
  · intro h
    refine well_of_inj fun i j hi hj e => ?_
    rw [nth_eq hi, nth_eq hj] at e
    exact (List.getElem_inj h).1 e
  · intro h
    unfold List.Nodup
    rw [List.pairwise_iff_getElem]
    intro i j hi hj hij e
    rw [← nth_eq hi, ← nth_eq hj] at e
    have := well_inj h hi hj e
    omega

theorem mem_moreOf {N L : List ByteArray} {s : ByteArray} : s ∈ moreOf N L ↔ s ∈ L ∧ s ∉ N := by
  unfold moreOf
  rw [List.mem_filter]
  cases h : hasIdx N s
  · simp [hasIdx_false.1 h]
  · simp [hasIdx_iff.1 h]

theorem joined_well {N L : List ByteArray} (hN : Well N) (hL : Well L) : Well (joined N L) := by
  rw [← nodup_iff] at *
  unfold joined
  rw [List.nodup_append]
  refine ⟨hN, hL.filter _, ?_⟩
  intro a ha b hb e
  subst e
  exact (mem_moreOf.1 hb).2 ha

theorem joined_len (N L : List ByteArray) : (joined N L).length = N.length + (moreOf N L).length := by simp [joined]

theorem joined_left (N L : List ByteArray) {i : Nat} (h : i < N.length) : nth (joined N L) i = nth N i := nth_append_left h

theorem mem_joined {N L : List ByteArray} {s : ByteArray} : s ∈ joined N L ↔ s ∈ N ∨ s ∈ L := by
  unfold joined
  rw [List.mem_append, mem_moreOf]
  by_cases h : s ∈ N <;> simp [h]

/-- The k-th name of L, where N lacks it, comes behind those that came before it. -/
theorem joined_next (N L : List ByteArray) {k : Nat} (hk : k < L.length) (h : hasIdx N (nth L k) = false) :
    N.length + (moreOf N (L.take k)).length < (joined N L).length ∧ nth (joined N L) (N.length + (moreOf N (L.take k)).length) = nth L k := by
  have e : moreOf N L = moreOf N (L.take k) ++ (nth L k :: moreOf N (L.drop (k + 1))) := by
    have e1 : L = L.take k ++ nth L k :: L.drop (k + 1) := by
      rw [nth_eq hk, ← List.drop_eq_getElem_cons hk, List.take_append_drop]
    rw [e1]
    have e2 : ((L.take k ++ nth L k :: L.drop (k + 1)).take k) = L.take k := by
      rw [← e1]
    unfold moreOf
    rw [List.filter_append, List.filter_cons]
    simp only [h, Bool.not_false, if_true]
    rw [← e1]
  refine ⟨?_, ?_⟩
  · rw [joined_len, e]
    simp
  · unfold joined
    rw [nth_append_right (by omega), e]
    have : N.length + (moreOf N (L.take k)).length - N.length = (moreOf N (L.take k)).length := by omega
    rw [this, nth_append_right (Nat.le_refl _)]
    simp [nth]

/-- The law's own word for 'the same places'. -/
def lawSame (M L : List ByteArray) (k : Nat) : Bool := (List.range k).all fun i => decide (i < M.length) && decide (nth M i = nth L i)

theorem lawSame_succ (M L : List ByteArray) (k : Nat) : lawSame M L (k + 1) = (lawSame M L k && (decide (k < M.length) && decide (nth M k = nth L k))) := by
  simp [lawSame, List.range_succ]

theorem lawSame_eq {M L : List ByteArray} (hM : Well M) (hL : ∀ s ∈ L, s ∈ M) {k : Nat} (hk : k ≤ L.length) : lawSame M L k = sameTo M L k := by
  induction k with
  | zero => rfl
  | succ k ih =>
    rw [lawSame_succ, sameTo_succ, ih (by omega)]
    congr 1
    have hm := hL _ (nth_mem (show k < L.length by omega))
    obtain ⟨h1, h2, h3⟩ := atIdx_lt hm
    by_cases e : atIdx M (nth L k) = k
    · have hk' : k < M.length := by omega
      rw [e] at h3
      simp [e, hk', show nth M k = nth L k from by simpa using h3]
    · have : (atIdx M (nth L k) == (k : Int)) = false := by simp [e]
      rw [this]
      by_cases hlt : k < M.length
      · have : nth M k ≠ nth L k := fun e2 => e (atIdx_mem hM hlt e2)
        simp [this]
      · simp [hlt]

end Go.Proofs.Qxb6600067a
