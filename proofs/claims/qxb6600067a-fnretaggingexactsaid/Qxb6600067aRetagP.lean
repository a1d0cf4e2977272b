/-
  retagging: the plain laws: what holds after some entries of the heirs' map have been met, in whatever order.
-/
import Derived.Test.Qxb6600067aWith
namespace Go.Proofs.Qxb6600067a

theorem withName_well {L : List ByteArray} (h : Well L) (s : ByteArray) : Well (withName L s) := by
  unfold withName
  cases hh : hasIdx L s
  · simp only [Bool.false_eq_true, if_false]
    rw [← nodup_iff] at h ⊢
    rw [List.nodup_append]
    refine ⟨h, by simp, ?_⟩
    intro a ha b hb e
    simp at hb
    subst hb
    subst e
    exact hasIdx_false.1 hh ha
  · simpa using h

theorem withName_mem (L : List ByteArray) (s : ByteArray) : s ∈ withName L s := by
  unfold withName
  cases hh : hasIdx L s
  · simp
  · simpa using hasIdx_iff.1 hh

/-- L' begins with L. -/
def Begins (L L' : List ByteArray) : Prop := ∃ e, L' = L ++ e

theorem Begins.refl (L : List ByteArray) : Begins L L := ⟨[], by simp⟩
theorem Begins.trans {A B C : List ByteArray} (h : Begins A B) (k : Begins B C) : Begins A C := by
  obtain ⟨e, rfl⟩ := h
  obtain ⟨f, rfl⟩ := k
  exact ⟨e ++ f, by simp⟩
theorem Begins.len {L L' : List ByteArray} (h : Begins L L') : L.length ≤ L'.length := by
  obtain ⟨e, rfl⟩ := h
  simp
theorem Begins.nth {L L' : List ByteArray} (h : Begins L L') {i : Nat} (hi : i < L.length) : nth L' i = nth L i := by
  obtain ⟨e, rfl⟩ := h
  exact nth_append_left hi
theorem Begins.mem {L L' : List ByteArray} (h : Begins L L') {s : ByteArray} (hs : s ∈ L) : s ∈ L' := by
  obtain ⟨e, rfl⟩ := h
  simp [hs]
theorem Begins.atIdx {L L' : List ByteArray} (h : Begins L L') (hw : Well L') {s : ByteArray} (hs : s ∈ L) : atIdx L' s = atIdx L s := by
  obtain ⟨h1, h2, h3⟩ := atIdx_lt hs
  have := h.len
  have e := hw (Go.Proofs.Qxb6600067a.atIdx L s).toNat (by omega)
  rw [h.nth (by omega), h3] at e
  omega
theorem withName_begins (L : List ByteArray) (s : ByteArray) : Begins L (withName L s) := by
  unfold withName
  cases hh : hasIdx L s
  · exact ⟨[s], by simp⟩
  · simpa using Begins.refl L

theorem rev_ind {α : Type} {P : List α → Prop} (h0 : P []) (hs : ∀ l a, P l → P (l ++ [a])) (l : List α) : P l := by
  have : ∀ r : List α, P r.reverse := by
    intro r
    induction r with
    | nil => exact h0
    | cons a r ih => rw [List.reverse_cons]; exact hs _ _ ih
  have h := this l.reverse
  rw [List.reverse_reverse] at h
  exact h

/-- What the moves make of place i. -/
def upd (mvs : List (Nat × Nat)) (i : Nat) : Nat := mvs.foldl (fun acc p => if p.1 = i then p.2 else acc) i

theorem upd_snoc (mvs : List (Nat × Nat)) (p : Nat × Nat) (i : Nat) : upd (mvs ++ [p]) i = if p.1 = i then p.2 else upd mvs i := by
  simp [upd, List.foldl_append]

theorem upd_or (mvs : List (Nat × Nat)) (i : Nat) : upd mvs i = i ∨ (i, upd mvs i) ∈ mvs := by
  refine rev_ind (P := fun mvs => upd mvs i = i ∨ (i, upd mvs i) ∈ mvs) (.inl rfl) ?_ mvs
  · intro mvs p ih
    rw [upd_snoc]
    by_cases e : p.1 = i
    · right
      rw [if_pos e]
      simp [← e]
    · rw [if_neg e]
      rcases ih with h | h
      · exact .inl h
      · exact .inr (by simp [h])

theorem upd_mem {mvs : List (Nat × Nat)} {i j : Nat} (h : (i, j) ∈ mvs) : (i, upd mvs i) ∈ mvs := by
  revert h
  refine rev_ind (P := fun mvs => (i, j) ∈ mvs → (i, upd mvs i) ∈ mvs) (fun h => by cases h) ?_ mvs
  · intro mvs p ih h
    rw [upd_snoc]
    by_cases e : p.1 = i
    · rw [if_pos e]
      simp [← e]
    · rw [if_neg e]
      rcases List.mem_append.1 h with h1 | h1
      · simp [ih h1]
      · simp at h1
        exact absurd (by rw [← h1]) e

/-- After some of the entries: L' the names, mvs the moves; 'left s': the entry at s is still to come. -/
structure Inv (L : List ByteArray) (g : ByteArray → Option ByteArray) (left : ByteArray → Prop) (L' : List ByteArray) (mvs : List (Nat × Nat)) : Prop where
  well : Well L'
  pre : Begins L L'
  added : ∀ i, L.length ≤ i → i < L'.length → ∃ k, g k = some (nth L' i) ∧ nth L' i ≠ k ∧ k.size ≤ maxLen
  moves : ∀ p ∈ mvs, p.1 < L'.length ∧ ∃ h, g (nth L' p.1) = some h ∧ h ≠ nth L' p.1 ∧ h ∈ L' ∧ (p.2 : Int) = atIdx L' h
  done : ∀ i h, i < L.length → g (nth L i) = some h → h ≠ nth L i → ¬ left (nth L i) → ∃ j, (i, j) ∈ mvs
  still : mvs = [] → L' = L
  hit : mvs ≠ [] → ∃ i h, i < L.length ∧ g (nth L i) = some h ∧ h ≠ nth L i
  len : L'.length ≤ L.length + mvs.length

theorem Inv.start {L : List ByteArray} (hw : Well L) (g : ByteArray → Option ByteArray) (hs : ∀ s ∈ L, s.size ≤ maxLen) {left : ByteArray → Prop} (hl : ∀ s, s.size ≤ maxLen → (g s).isSome = true → left s) : Inv L g left L [] :=
  ⟨hw, Begins.refl L, fun i h1 h2 => by omega, (by simp), (fun i h hi hg _ hn => absurd (hl _ (hs _ (nth_mem hi)) (by simp [hg])) hn), fun _ => rfl, (fun h => absurd rfl h), by simp⟩

theorem Inv.skip {L L' : List ByteArray} {g : ByteArray → Option ByteArray} {left : ByteArray → Prop} {mvs : List (Nat × Nat)} (H : Inv L g left L' mvs) {s h : ByteArray} (hg : g s = some h) (hk : s ∈ L' → h = s) :
    Inv L g (fun z => left z ∧ z ≠ s) L' mvs := by
  refine ⟨H.well, H.pre, H.added, H.moves, ?_, H.still, H.hit, H.len⟩
  intro i h' hi hgi hne hl
  by_cases e : nth L i = s
  · rw [e, hg] at hgi
    cases hgi
    exact absurd (by rw [e]; exact hk (H.pre.mem (by rw [← e]; exact nth_mem hi))) hne
  · exact H.done i h' hi hgi hne (fun hh => hl ⟨hh, e⟩)

theorem Inv.move {L L' : List ByteArray} {g : ByteArray → Option ByteArray} {left : ByteArray → Prop} {mvs : List (Nat × Nat)} (H : Inv L g left L' mvs) {s h : ByteArray} (hg : g s = some h) (hs : s ∈ L') (hne : h ≠ s) (hsz : s.size ≤ maxLen) :
    Inv L g (fun z => left z ∧ z ≠ s) (withName L' h) (mvs ++ [((atIdx L' s).toNat, (atIdx (withName L' h) h).toNat)]) := by
  have hW := withName_well H.well h
  have hB := withName_begins L' h
  obtain ⟨s1, s2, s3⟩ := atIdx_lt hs
  have hlen := hB.len
  obtain ⟨t1, t2, t3⟩ := atIdx_lt (withName_mem L' h)
  have hnew : ∀ i, L'.length ≤ i → i < (withName L' h).length → nth (withName L' h) i = h := by
    intro i h1 h2
    unfold withName at h2 ⊢
    cases hh : hasIdx L' h
    · simp only [hh, Bool.false_eq_true, if_false] at h2 ⊢
      simp at h2
      have : i = L'.length := by omega
      subst this
      rw [nth_append_right (Nat.le_refl _)]
      simp [nth]
    · simp only [hh, if_true] at h2
      omega
  refine ⟨hW, H.pre.trans hB, ?_, ?_, ?_, by simp, ?_, ?_⟩
  · intro i h1 h2
    by_cases hi : i < L'.length
    · rw [hB.nth hi]
      exact H.added i h1 hi
    · have e := hnew i (by omega) h2
      exact ⟨s, by rw [e]; exact hg, by rw [e]; exact hne, hsz⟩
  · intro p hp
    rcases List.mem_append.1 hp with hp | hp
    · obtain ⟨p1, h', p2, p3, p4, p5⟩ := H.moves p hp
      refine ⟨by omega, h', by rw [hB.nth p1]; exact p2, by rw [hB.nth p1]; exact p3, hB.mem p4, ?_⟩
      rw [hB.atIdx hW p4]
      exact p5
    · simp at hp
      subst hp
      refine ⟨by show (atIdx L' s).toNat < _; omega, h, ?_, ?_, withName_mem L' h, ?_⟩
      · show g (nth (withName L' h) (atIdx L' s).toNat) = _
        rw [hB.nth (by omega), s3]
        exact hg
      · show h ≠ nth (withName L' h) (atIdx L' s).toNat
        rw [hB.nth (by omega), s3]
        exact hne
      · show (((atIdx (withName L' h) h).toNat : Nat) : Int) = _
        omega
  · intro i h' hi hgi hn hl
    by_cases e : nth L i = s
    · refine ⟨(atIdx (withName L' h) h).toNat, List.mem_append.2 (.inr ?_)⟩
      have hi' : i < L'.length := Nat.lt_of_lt_of_le hi H.pre.len
      have := H.well i hi'
      rw [H.pre.nth hi, e] at this
      have e2 : (atIdx L' s).toNat = i := by omega
      simp [e2]
    · obtain ⟨j, hj⟩ := H.done i h' hi hgi hn (fun hh => hl ⟨hh, e⟩)
      exact ⟨j, by simp [hj]⟩
  · intro _
    by_cases hm : mvs = []
    · have hL := H.still hm
      subst hL
      exact ⟨(atIdx L' s).toNat, h, by omega, by rw [s3]; exact hg, by rw [s3]; exact hne⟩
    · exact H.hit hm
  · have := H.len
    have : (withName L' h).length ≤ L'.length + 1 := by
      unfold withName
      cases hasIdx L' h <;> simp
    simp
    omega

/-- What retagging hands back, where some name moves. -/
structure Retagged (L L' : List ByteArray) (g : ByteArray → Option ByteArray) (tf : Nat → Nat) : Prop where
  well : Well L'
  pre : Begins L L'
  added : ∀ i, L.length ≤ i → i < L'.length → ∃ k, g k = some (nth L' i) ∧ nth L' i ≠ k ∧ k.size ≤ maxLen
  tof : ∀ i, i < L'.length → tf i = i ∨ ∃ h, g (nth L' i) = some h ∧ h ≠ nth L' i ∧ h ∈ L' ∧ (tf i : Int) = atIdx L' h
  old : ∀ i h, i < L.length → g (nth L i) = some h → h ≠ nth L i → h ∈ L' ∧ (tf i : Int) = atIdx L' h

theorem Inv.retagged {L L' : List ByteArray} {g : ByteArray → Option ByteArray} {left : ByteArray → Prop} {mvs : List (Nat × Nat)} (H : Inv L g left L' mvs) (hl : ∀ s, s.size ≤ maxLen → ¬ left s) (hs : ∀ s ∈ L, s.size ≤ maxLen) : Retagged L L' g (upd mvs) := by
  refine ⟨H.well, H.pre, H.added, ?_, ?_⟩
  · intro i _
    rcases upd_or mvs i with h | h
    · exact .inl h
    · obtain ⟨_, h', p2, p3, p4, p5⟩ := H.moves _ h
      exact .inr ⟨h', p2, p3, p4, p5⟩
  · intro i h hi hg hn
    obtain ⟨j, hj⟩ := H.done i h hi hg hn (hl _ (hs _ (nth_mem hi)))
    obtain ⟨p1, h', p2, p3, p4, p5⟩ := H.moves _ (upd_mem hj)
    simp only at p1 p2 p5
    rw [H.pre.nth hi, hg] at p2
    cases p2
    exact ⟨p4, p5⟩

end Go.Proofs.Qxb6600067a
