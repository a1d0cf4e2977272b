/-
  Floors of steps, as plain lists.
-/
namespace Go.Proofs.Qxb6600067a

structure St where
  a : Nat
  b : Nat
  v : Nat
  s : ByteArray

def stn (fl : List St) (i : Nat) : St := fl.getD i ⟨0, 0, 0, ByteArray.empty⟩

theorem stn_eq {fl : List St} {i : Nat} (h : i < fl.length) : stn fl i = fl[i] := by
  simp [stn, List.getD, List.getElem?_eq_getElem h]
theorem stn_mem {fl : List St} {i : Nat} (h : i < fl.length) : stn fl i ∈ fl := by
  rw [stn_eq h]; exact List.getElem_mem h
theorem stn_left {A B : List St} {i : Nat} (h : i < A.length) : stn (A ++ B) i = stn A i := by
  simp [stn, List.getD, List.getElem?_append_left h]
theorem stn_last (A : List St) (x : St) : stn (A ++ [x]) A.length = x := by simp [stn]

/-- y goes on from x. -/
def joins (x y : St) : Bool := decide (x.b + 1 = y.a) && (decide (x.v = y.v) && decide (x.s = y.s))

def covers (st : St) (p : Nat) : Bool := decide (st.a ≤ p) && decide (p ≤ st.b)
def cov (fl : List St) (p : Nat) : Option (Nat × ByteArray) := (fl.find? fun st => covers st p).map fun st => (st.v, st.s)

structure Canon (fl : List St) : Prop where
  le : ∀ st ∈ fl, st.a ≤ st.b
  lt : ∀ i, i + 1 < fl.length → (stn fl i).b < (stn fl (i + 1)).a
  nj : ∀ i, i + 1 < fl.length → joins (stn fl i) (stn fl (i + 1)) = false

theorem canon_nil : Canon [] := ⟨by simp, by simp, by simp⟩

theorem Canon.far {fl : List St} (h : Canon fl) {i j : Nat} (hij : i < j) (hj : j < fl.length) : (stn fl i).b < (stn fl j).a := by
  induction j with
  | zero => omega
  | succ j ih =>
    rcases Nat.lt_succ_iff_lt_or_eq.1 hij with h1 | h1
    · have h2 := ih h1 (by omega)
      have h3 := h.le _ (stn_mem (show j < fl.length by omega))
      have h4 := h.lt j hj
      omega
    · subst h1
      exact h.lt i hj

theorem covers_iff {st : St} {p : Nat} : covers st p = true ↔ st.a ≤ p ∧ p ≤ st.b := by simp [covers]

theorem Canon.one {fl : List St} (h : Canon fl) {i j p : Nat} (hi : i < fl.length) (hj : j < fl.length) (h1 : covers (stn fl i) p = true) (h2 : covers (stn fl j) p = true) : i = j := by
  rw [covers_iff] at h1 h2
  rcases Nat.lt_trichotomy i j with e | e | e
  · have := h.far e hj; omega
  · exact e
  · have := h.far e hi; omega

theorem cov_some {fl : List St} (h : Canon fl) {i p : Nat} (hi : i < fl.length) (hc : covers (stn fl i) p = true) : cov fl p = some ((stn fl i).v, (stn fl i).s) := by
  unfold cov
  cases hf : fl.find? (fun st => covers st p) with
  | none =>
    rw [List.find?_eq_none] at hf
    exact absurd hc (hf _ (stn_mem hi))
  | some y =>
    have h1 := List.find?_some hf
    have h2 := List.mem_of_find?_eq_some hf
    obtain ⟨j, hj, e⟩ := List.getElem_of_mem h2
    rw [← stn_eq hj] at e
    subst e
    have := h.one hi hj hc h1
    subst this
    rfl

theorem cov_none {fl : List St} {p : Nat} (hc : ∀ i, i < fl.length → covers (stn fl i) p = false) : cov fl p = none := by
  unfold cov
  rw [Option.map_eq_none_iff, List.find?_eq_none]
  intro x hx
  obtain ⟨j, hj, e⟩ := List.getElem_of_mem hx
  rw [← stn_eq hj] at e
  subst e
  simp [hc j hj]

theorem cov_append (A B : List St) (p : Nat) : cov (A ++ B) p = (cov A p).or (cov B p) := by
  unfold cov
  rw [List.find?_append]
  cases A.find? (fun st => covers st p) <;> simp

theorem cov_single (x : St) (p : Nat) : cov [x] p = if covers x p = true then some (x.v, x.s) else none := by
  unfold cov
  cases h : covers x p <;> simp [List.find?, h]

/-- The last step. -/
def lastS (fl : List St) : St := stn fl (fl.length - 1)

def thenF (fl : List St) (st : St) : List St :=
  if 0 < fl.length ∧ joins (lastS fl) st = true then fl.set (fl.length - 1) ⟨(lastS fl).a, st.b, (lastS fl).v, (lastS fl).s⟩ else fl ++ [st]

theorem snoc_of {fl : List St} (h : 0 < fl.length) : ∃ A, fl = A ++ [lastS fl] ∧ A.length = fl.length - 1 := by
  refine ⟨fl.take (fl.length - 1), ?_, by simp⟩
  unfold lastS
  rw [stn_eq (by omega)]
  have := List.take_succ_eq_append_getElem (l := fl) (i := fl.length - 1) (by omega)
  rw [show fl.length - 1 + 1 = fl.length by omega, List.take_length] at this
  exact this

theorem set_last (A : List St) (x y : St) : (A ++ [x]).set A.length y = A ++ [y] := by
  simp

theorem Canon.pre {A : List St} {x : St} (h : Canon (A ++ [x])) : Canon A := by
  refine ⟨fun st hs => h.le st (by simp [hs]), fun i hi => ?_, fun i hi => ?_⟩
  · have := h.lt i (by simp; omega)
    rw [stn_left (by omega), stn_left (by omega)] at this
    exact this
  · have := h.nj i (by simp; omega)
    rw [stn_left (by omega), stn_left (by omega)] at this
    exact this

theorem canon_snoc {A : List St} {x : St} (h : Canon A) (hx : x.a ≤ x.b) (hl : 0 < A.length → (lastS A).b < x.a ∧ joins (lastS A) x = false) : Canon (A ++ [x]) := by
  refine ⟨fun st hs => ?_, fun i hi => ?_, fun i hi => ?_⟩
  · rcases List.mem_append.1 hs with h1 | h1
    · exact h.le st h1
    · simp at h1
      subst h1
      exact hx
  · simp at hi
    rcases Nat.lt_or_ge (i + 1) A.length with h1 | h1
    · rw [stn_left (by omega), stn_left h1]
      exact h.lt i h1
    · have e : i + 1 = A.length := by omega
      rw [e, stn_last, stn_left (by omega)]
      have := (hl (by omega)).1
      unfold lastS at this
      rw [show A.length - 1 = i by omega] at this
      exact this
  · simp at hi
    rcases Nat.lt_or_ge (i + 1) A.length with h1 | h1
    · rw [stn_left (by omega), stn_left h1]
      exact h.nj i h1
    · have e : i + 1 = A.length := by omega
      rw [e, stn_last, stn_left (by omega)]
      have := (hl (by omega)).2
      unfold lastS at this
      rw [show A.length - 1 = i by omega] at this
      exact this

theorem lastS_snoc (A : List St) (x : St) : lastS (A ++ [x]) = x := by
  unfold lastS
  simp [stn]

/-- Where the last step of a floor lies ahead of another place, all of them do. -/
theorem Canon.all {fl : List St} (h : Canon fl) {q : Nat} (hl : 0 < fl.length → (lastS fl).b < q) : ∀ i, i < fl.length → (stn fl i).b < q := by
  intro i hi
  have h1 := hl (by omega)
  unfold lastS at h1
  rcases Nat.lt_or_ge i (fl.length - 1) with h2 | h2
  · have h3 := h.far h2 (by omega)
    have h4 := h.le _ (stn_mem (show fl.length - 1 < fl.length by omega))
    omega
  · rw [show i = fl.length - 1 by omega]
    exact h1

theorem then_join {A : List St} {x st : St} (hj : joins x st = true) : thenF (A ++ [x]) st = A ++ [⟨x.a, st.b, x.v, x.s⟩] := by
  unfold thenF
  rw [lastS_snoc, if_pos ⟨by simp, hj⟩]
  have e : (A ++ [x]).length - 1 = A.length := by simp
  rw [e, set_last]

theorem joins_iff {x y : St} : joins x y = true ↔ x.b + 1 = y.a ∧ x.v = y.v ∧ x.s = y.s := by simp [joins]

theorem then_canon {fl : List St} {st : St} (h : Canon fl) (hs : st.a ≤ st.b) (hl : 0 < fl.length → (lastS fl).b < st.a) : Canon (thenF fl st) := by
  by_cases hc : 0 < fl.length ∧ joins (lastS fl) st = true
  · obtain ⟨h0, hj⟩ := hc
    obtain ⟨A, e, hA⟩ := snoc_of h0
    generalize lastS fl = x at *
    subst e
    rw [then_join hj]
    have hx := h.le x (by simp)
    rw [joins_iff] at hj
    refine canon_snoc h.pre (by show x.a ≤ st.b; omega) fun hp => ?_
    have h1 := h.lt (A.length - 1) (by simp; omega)
    have h2 := h.nj (A.length - 1) (by simp; omega)
    rw [show A.length - 1 + 1 = A.length by omega, stn_last, stn_left (by omega)] at h1 h2
    exact ⟨h1, h2⟩
  · unfold thenF
    rw [if_neg hc]
    refine canon_snoc h hs fun hp => ⟨hl hp, ?_⟩
    cases hj : joins (lastS fl) st
    · rfl
    · exact absurd ⟨hp, hj⟩ hc

theorem cov_then {fl : List St} {st : St} (h : Canon fl) (hs : st.a ≤ st.b) (hl : 0 < fl.length → (lastS fl).b < st.a) (p : Nat) :
    cov (thenF fl st) p = if st.a ≤ p ∧ p ≤ st.b then some (st.v, st.s) else cov fl p := by
  have hall := h.all hl
  have hnone : st.a ≤ p → cov fl p = none := fun hp => cov_none fun i hi => by
    have := hall i hi
    cases hc : covers (stn fl i) p
    · rfl
    · rw [covers_iff] at hc; omega
  by_cases hc : 0 < fl.length ∧ joins (lastS fl) st = true
  · obtain ⟨h0, hj⟩ := hc
    obtain ⟨A, e, hA⟩ := snoc_of h0
    generalize lastS fl = x at *
    subst e
    have hx := h.le x (by simp)
    have hxl : x.b < st.a := hl h0
    rw [then_join hj, cov_append, cov_single]
    rw [joins_iff] at hj
    obtain ⟨j1, j2, j3⟩ := hj
    by_cases hp : st.a ≤ p ∧ p ≤ st.b
    · rw [if_pos hp]
      have hn := hnone hp.1
      rw [cov_append, Option.or_eq_none_iff] at hn
      rw [hn.1]
      have : covers ⟨x.a, st.b, x.v, x.s⟩ p = true := covers_iff.2 ⟨by show x.a ≤ p; omega, hp.2⟩
      rw [if_pos this]
      simp [j2, j3]
    · rw [if_neg hp, cov_append, cov_single]
      congr 1
      have : covers ⟨x.a, st.b, x.v, x.s⟩ p = covers x p := by
        rw [Bool.eq_iff_iff, covers_iff, covers_iff]
        show x.a ≤ p ∧ p ≤ st.b ↔ _
        omega
      rw [this]
  · unfold thenF
    rw [if_neg hc, cov_append, cov_single]
    by_cases hp : st.a ≤ p ∧ p ≤ st.b
    · rw [if_pos hp, hnone hp.1, if_pos (covers_iff.2 hp)]
      rfl
    · rw [if_neg hp]
      have : covers st p = false := by
        cases hcc : covers st p
        · rfl
        · exact absurd (covers_iff.1 hcc) hp
      rw [if_neg (by simp [this])]
      simp

theorem then_len (fl : List St) (st : St) : (thenF fl st).length ≤ fl.length + 1 ∧ 0 < (thenF fl st).length := by
  unfold thenF
  split
  · rename_i h
    simp
    omega
  · simp

theorem then_last (fl : List St) (st : St) : (lastS (thenF fl st)).b = st.b := by
  unfold thenF
  split
  · rename_i h
    obtain ⟨A, e, hA⟩ := snoc_of h.1
    generalize lastS fl = x at *
    subst e
    have e : (A ++ [x]).length - 1 = A.length := by simp
    rw [e, set_last, lastS_snoc]
  · rw [lastS_snoc]

/-! ### raised -/
def topK (fl : List St) (first last version : Nat) (k : Nat) : Nat := (fl.take k).foldl (fun t st => if st.a ≤ last ∧ first ≤ st.b then max t st.v else t) version
def leftK (fl : List St) (first : Nat) (k : Nat) : List St := (fl.take k).foldl (fun r st => if st.a < first then thenF r ⟨st.a, min st.b (first - 1), st.v, st.s⟩ else r) []
def rightK (mid fl : List St) (last : Nat) (k : Nat) : List St := (fl.take k).foldl (fun r st => if last < st.b then thenF r ⟨max st.a (last + 1), st.b, st.v, st.s⟩ else r) mid

theorem take_snoc {fl : List St} {k : Nat} (h : k < fl.length) : fl.take (k + 1) = fl.take k ++ [stn fl k] := by
  rw [List.take_succ_eq_append_getElem h, stn_eq h]

theorem topK_succ {fl : List St} {first last version k : Nat} (h : k < fl.length) : topK fl first last version (k + 1) = if (stn fl k).a ≤ last ∧ first ≤ (stn fl k).b then max (topK fl first last version k) (stn fl k).v else topK fl first last version k := by
  unfold topK
  rw [take_snoc h, List.foldl_append]
  rfl
theorem leftK_succ {fl : List St} {first k : Nat} (h : k < fl.length) : leftK fl first (k + 1) = if (stn fl k).a < first then thenF (leftK fl first k) ⟨(stn fl k).a, min (stn fl k).b (first - 1), (stn fl k).v, (stn fl k).s⟩ else leftK fl first k := by
  unfold leftK
  rw [take_snoc h, List.foldl_append]
  rfl
theorem rightK_succ {mid fl : List St} {last k : Nat} (h : k < fl.length) : rightK mid fl last (k + 1) = if last < (stn fl k).b then thenF (rightK mid fl last k) ⟨max (stn fl k).a (last + 1), (stn fl k).b, (stn fl k).v, (stn fl k).s⟩ else rightK mid fl last k := by
  unfold rightK
  rw [take_snoc h, List.foldl_append]
  rfl

def raisedF (fl : List St) (first last version : Nat) (by' : ByteArray) : List St :=
  rightK (thenF (leftK fl first fl.length) ⟨first, last, topK fl first last version fl.length, by'⟩) fl last fl.length

/-- cov over one step more of a well-formed floor. -/
theorem cov_take_succ {fl : List St} (h : Canon fl) {k : Nat} (hk : k < fl.length) (p : Nat) : cov (fl.take (k + 1)) p = if covers (stn fl k) p = true then some ((stn fl k).v, (stn fl k).s) else cov (fl.take k) p := by
  rw [take_snoc hk, cov_append, cov_single]
  cases hc : covers (stn fl k) p
  · simp
  · have : cov (fl.take k) p = none := cov_none fun i hi => by
      have hik : i < k := by simp at hi; omega
      have e : stn (fl.take k) i = stn fl i := by simp [stn, List.getD, hik]
      rw [e]
      cases hci : covers (stn fl i) p
      · rfl
      · have := h.one (show i < fl.length by omega) hk hci hc
        omega
    rw [this]
    simp

structure LeftInv (fl : List St) (first k : Nat) : Prop where
  canon : Canon (leftK fl first k)
  low : 0 < (leftK fl first k).length → (lastS (leftK fl first k)).b < first ∧ ∃ j, j < k ∧ (lastS (leftK fl first k)).b ≤ (stn fl j).b
  cov : ∀ p, cov (leftK fl first k) p = if p < first then cov (fl.take k) p else none
  len : (leftK fl first k).length ≤ k

theorem left_start (fl : List St) (first : Nat) : LeftInv fl first 0 := by
  refine ⟨canon_nil, by simp [leftK], fun p => ?_, by simp [leftK]⟩
  simp [leftK, Go.Proofs.Qxb6600067a.cov]

/-- What the walk asks at each step of the first half. -/
theorem left_ahead {fl : List St} (h : Canon fl) {first k : Nat} (hk : k < fl.length) (H : LeftInv fl first k) (h0 : 0 < (leftK fl first k).length) : (lastS (leftK fl first k)).b < (stn fl k).a := by
  obtain ⟨_, j, hj, hb⟩ := H.low h0
  have := h.far hj hk
  omega

theorem left_step {fl : List St} (h : Canon fl) {first k : Nat} (hk : k < fl.length) (H : LeftInv fl first k) : LeftInv fl first (k + 1) := by
  have hle := h.le _ (stn_mem hk)
  have hah := left_ahead h hk H
  have hct := cov_take_succ h hk
  by_cases ha : (stn fl k).a < first
  · have e := leftK_succ (fl := fl) (first := first) hk
    rw [if_pos ha] at e
    have hs : (stn fl k).a ≤ min (stn fl k).b (first - 1) := by omega
    refine ⟨by rw [e]; exact then_canon H.canon hs hah, fun _ => ?_, fun p => ?_, ?_⟩
    · rw [e, then_last]
      exact ⟨by show min _ _ < first; omega, k, by omega, by show min _ _ ≤ _; omega⟩
    · rw [e, cov_then (st := ⟨(stn fl k).a, min (stn fl k).b (first - 1), (stn fl k).v, (stn fl k).s⟩) H.canon hs hah, H.cov, hct]
      simp only
      by_cases hp : p < first
      · simp only [if_pos hp]
        by_cases hc : covers (stn fl k) p = true
        · rw [if_pos hc]
          rw [covers_iff] at hc
          rw [if_pos (by omega)]
        · rw [if_neg hc]
          rw [covers_iff] at hc
          rw [if_neg (by omega)]
      · simp only [if_neg hp]
        rw [if_neg (by omega)]
    · rw [e]
      have := (then_len (leftK fl first k) ⟨(stn fl k).a, min (stn fl k).b (first - 1), (stn fl k).v, (stn fl k).s⟩).1
      have := H.len
      omega
  · have e := leftK_succ (fl := fl) (first := first) hk
    rw [if_neg ha] at e
    refine ⟨by rw [e]; exact H.canon, fun h0 => ?_, fun p => ?_, ?_⟩
    · rw [e] at h0 ⊢
      obtain ⟨h1, j, hj, hb⟩ := H.low h0
      exact ⟨h1, j, by omega, hb⟩
    · rw [e, H.cov, hct]
      by_cases hp : p < first
      · simp only [if_pos hp]
        rw [if_neg]
        rw [covers_iff]
        omega
      · simp only [if_neg hp]
    · rw [e]
      have := H.len
      omega

structure RightInv (mid fl : List St) (first last : Nat) (ans : Nat × ByteArray) (k : Nat) : Prop where
  canon : Canon (rightK mid fl last k)
  low : (lastS (rightK mid fl last k)).b ≤ last ∨ ∃ j, j < k ∧ (lastS (rightK mid fl last k)).b ≤ (stn fl j).b
  cov : ∀ p, cov (rightK mid fl last k) p = if p < first then cov fl p else if p ≤ last then some ans else cov (fl.take k) p
  len : (rightK mid fl last k).length ≤ mid.length + k

theorem right_start {fl : List St} {first last top : Nat} (hfl : first ≤ last) (by' : ByteArray) (H : LeftInv fl first fl.length) :
    RightInv (thenF (leftK fl first fl.length) ⟨first, last, top, by'⟩) fl first last (top, by') 0 := by
  have hah : 0 < (leftK fl first fl.length).length → (lastS (leftK fl first fl.length)).b < first := fun h0 => (H.low h0).1
  have e : ∀ mid, rightK mid fl last 0 = mid := fun mid => by simp [rightK]
  refine ⟨by rw [e]; exact then_canon H.canon hfl hah, .inl (by rw [e, then_last]; exact Nat.le_refl _), fun p => ?_, by rw [e]; omega⟩
  rw [e, cov_then (st := ⟨first, last, top, by'⟩) H.canon hfl hah, H.cov]
  simp only [List.take_length, List.take_zero]
  by_cases hp : p < first
  · rw [if_neg (by omega), if_pos hp, if_pos hp]
  · rw [if_neg hp, if_neg hp]
    by_cases hp2 : p ≤ last
    · rw [if_pos ⟨by omega, hp2⟩, if_pos hp2]
    · rw [if_neg (by omega), if_neg hp2]
      rfl

theorem right_ahead {mid fl : List St} (h : Canon fl) {first last k : Nat} {ans : Nat × ByteArray} (hk : k < fl.length) (H : RightInv mid fl first last ans k) : (lastS (rightK mid fl last k)).b < max (stn fl k).a (last + 1) := by
  rcases H.low with h1 | ⟨j, hj, hb⟩
  · omega
  · have := h.far hj hk
    omega

theorem right_step {mid fl : List St} (h : Canon fl) {first last k : Nat} {ans : Nat × ByteArray} (hfl : first ≤ last) (hk : k < fl.length) (H : RightInv mid fl first last ans k) : RightInv mid fl first last ans (k + 1) := by
  have hle := h.le _ (stn_mem hk)
  have hah := right_ahead h hk H
  have hct := cov_take_succ h hk
  by_cases ha : last < (stn fl k).b
  · have e := rightK_succ (mid := mid) (fl := fl) (last := last) hk
    rw [if_pos ha] at e
    have hs : max (stn fl k).a (last + 1) ≤ (stn fl k).b := by omega
    refine ⟨by rw [e]; exact then_canon H.canon hs (fun _ => hah), .inr ⟨k, by omega, by rw [e, then_last]; exact Nat.le_refl _⟩, fun p => ?_, ?_⟩
    · rw [e, cov_then (st := ⟨max (stn fl k).a (last + 1), (stn fl k).b, (stn fl k).v, (stn fl k).s⟩) H.canon hs (fun _ => hah), H.cov, hct]
      simp only
      by_cases hp : p < first
      · rw [if_neg (by omega), if_pos hp, if_pos hp]
      · rw [if_neg hp, if_neg hp]
        by_cases hp2 : p ≤ last
        · rw [if_neg (by omega), if_pos hp2, if_pos hp2]
        · rw [if_neg hp2, if_neg hp2]
          by_cases hc : covers (stn fl k) p = true
          · rw [if_pos hc]
            rw [covers_iff] at hc
            rw [if_pos (by omega)]
          · rw [if_neg hc]
            rw [covers_iff] at hc
            rw [if_neg (by omega)]
    · rw [e]
      have := (then_len (rightK mid fl last k) ⟨max (stn fl k).a (last + 1), (stn fl k).b, (stn fl k).v, (stn fl k).s⟩).1
      have := H.len
      omega
  · have e := rightK_succ (mid := mid) (fl := fl) (last := last) hk
    rw [if_neg ha] at e
    refine ⟨by rw [e]; exact H.canon, ?_, fun p => ?_, ?_⟩
    · rw [e]
      rcases H.low with h1 | ⟨j, hj, hb⟩
      · exact .inl h1
      · exact .inr ⟨j, by omega, hb⟩
    · rw [e, H.cov, hct]
      by_cases hp : p < first
      · rw [if_pos hp, if_pos hp]
      · rw [if_neg hp, if_neg hp]
        by_cases hp2 : p ≤ last
        · rw [if_pos hp2, if_pos hp2]
        · rw [if_neg hp2, if_neg hp2]
          rw [if_neg]
          rw [covers_iff]
          omega
    · rw [e]
      have := H.len
      omega

theorem left_all {fl : List St} (h : Canon fl) (first : Nat) : ∀ k, k ≤ fl.length → LeftInv fl first k
  | 0, _ => left_start fl first
  | k + 1, hk => left_step h (by omega) (left_all h first k (by omega))

theorem right_all {mid fl : List St} (h : Canon fl) {first last : Nat} {ans : Nat × ByteArray} (hfl : first ≤ last) (H : RightInv mid fl first last ans 0) : ∀ k, k ≤ fl.length → RightInv mid fl first last ans k
  | 0, _ => H
  | k + 1, hk => right_step h hfl (by omega) (right_all h hfl H k (by omega))

theorem raised_inv {fl : List St} (h : Canon fl) {first last version : Nat} (hfl : first ≤ last) (by' : ByteArray) :
    RightInv (thenF (leftK fl first fl.length) ⟨first, last, topK fl first last version fl.length, by'⟩) fl first last (topK fl first last version fl.length, by') fl.length :=
  right_all h hfl (right_start hfl by' (left_all h first _ (Nat.le_refl _))) _ (Nat.le_refl _)

theorem raised_canon {fl : List St} (h : Canon fl) {first last version : Nat} (hfl : first ≤ last) (by' : ByteArray) : Canon (raisedF fl first last version by') := (raised_inv h hfl by').canon

theorem raised_cov {fl : List St} (h : Canon fl) {first last version : Nat} (hfl : first ≤ last) (by' : ByteArray) (p : Nat) :
    cov (raisedF fl first last version by') p = if p < first ∨ last < p then cov fl p else some (topK fl first last version fl.length, by') := by
  have := (raised_inv h (version := version) hfl by').cov p
  rw [List.take_length] at this
  unfold raisedF
  rw [this]
  by_cases hp : p < first
  · rw [if_pos hp, if_pos (.inl hp)]
  · rw [if_neg hp]
    by_cases hp2 : p ≤ last
    · rw [if_pos hp2, if_neg (by omega)]
    · rw [if_neg hp2, if_pos (by omega)]

end Go.Proofs.Qxb6600067a
