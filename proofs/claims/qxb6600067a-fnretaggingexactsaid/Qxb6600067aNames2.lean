/-
  ZZNamesOf, ZZList, ZZIndex, wellIndexed.
-/
import Derived.Test.Qxb6600067aNames
import Derived.LaidEqlPtr
namespace Go.Proofs.Qxb6600067a
open Go.RowKit

set_option maxHeartbeats 400000 in
theorem namesOf_any (a : Option Addr) (n c : Nat) (ss : List ByteArray) (w : World) (h : Strs w a n c ss) (l : n ≤ 1048576) :
    Calls Try.prog 14 #[.slice a n c] w fun e w' => ∃ b', e = .returned (.pointer (some ⟨b', 0, none⟩)) ∧ Names w' b' ss ∧ w.heap.size ≤ b' ∧ Below w.heap.size w w' := by
  go_enter Try.func14, Try.ntmps14
  go_wp2_with fail
  refine (adding_any w.heap.size none a 0 0 n c [] ss _ ⟨rfl, by unfold maxLen; omega, by simp, (fun i hi => by omega), fun _ => rfl⟩ (h.later (below1 w _)) (by omega) (by simp)).mono ?_
  rintro e w1 ⟨b', rfl, hN, hb, hbl⟩
  go_wp2
  go_ret
  have hz : w.heap.size ≤ b' := by simp at hb; omega
  exact ⟨b', rfl, hN, hz, below_via (below1 w _) hbl⟩

set_option maxHeartbeats 400000 in
theorem list_any (b : Nat) (a : Option Addr) (n c m : Nat) (L : List ByteArray) (w : World) (h : NamesAt w b a n c m L) :
    Calls Try.prog 17 #[.pointer (some ⟨b, 0, none⟩)] w fun e w' => e = .returned (.slice a n c) ∧ w' = w := by
  have x0 := h.c0
  go_enter Try.func17, Try.ntmps17
  go_wp2
  go_ret
  exact ⟨rfl, rfl⟩

theorem info63 : (Try.prog.info? 63).map (fun i => i.size) = some 2 := by kernel_rfl

theorem ptr_same (w : World) (a : Addr) : (binOp .eql 26 (.pointer (some a)) (.pointer (some a))).run Try.prog w = .ok (.bool true) w := by
  obtain ⟨j, hj, _⟩ := Option.map_eq_some_iff.1 info63
  exact run_eql_ptr_same w a Try.underlying26 hj

theorem ptr_other (w : World) {b b' : Nat} {L L' : List ByteArray} (h : Names w b L) (h' : Names w b' L') (hne : b ≠ b') : (binOp .eql 26 (.pointer (some ⟨b, 0, none⟩)) (.pointer (some ⟨b', 0, none⟩))).run Try.prog w = .ok (.bool false) w := by
  obtain ⟨j, hj, hs⟩ := Option.map_eq_some_iff.1 info63
  obtain ⟨_, _, _, _, h⟩ := h
  obtain ⟨_, _, _, _, h'⟩ := h'
  exact run_eql_ptr_other w Try.underlying26 hj (by omega) (fun e => hne (congrArg Addr.block e)) h.blk h'.blk

theorem nil29 (w : World) (a : Option Addr) (n c : Nat) : (binOp .eql 29 (.slice a n c) (.slice none 0 0)).run Try.prog w = .ok (.bool a.isNone) w := Lib.run_eql_slice_nil w 29 33 a n c 0 0 Try.underlying29

theorem zero33 (w : World) : (zeroValue 33).run Try.prog w = .ok (.int .u32 0) w := by kernel_rfl

/-- What 'ZZIndex' answers. -/
def atIdx (L : List ByteArray) (s : ByteArray) : Int := ((lastIdx L s).getD 0 : Nat)
def hasIdx (L : List ByteArray) (s : ByteArray) : Bool := (lastIdx L s).isSome

theorem look_idx {w : World} {m n : Nat} {L : List ByteArray} (h : MapAt Try.prog 9 w m n (idx L)) {s : ByteArray} (hs : s.size ≤ maxLen) :
    (Instr.lookup 61 (.map (some m)) (.string s) true).run Try.prog w = .ok (.tuple #[.int .u32 (atIdx L s), .bool (hasIdx L s)]) w := by
  rw [h.look_ok Try.underlying9 Try.underlying61 (zero33 w) hs]
  unfold idx atIdx hasIdx
  cases lastIdx L s <;> rfl

theorem look_idx' {w : World} {m n : Nat} {L : List ByteArray} (h : MapAt Try.prog 9 w m n (idx L)) {s : ByteArray} (hs : s.size ≤ maxLen) :
    (Instr.lookup 61 (.map (some m)) (.string s) false).run Try.prog w = .ok (.int .u32 (atIdx L s)) w := by
  rw [h.look Try.underlying9 Try.underlying61 (zero33 w) hs]
  unfold idx atIdx
  cases lastIdx L s <;> rfl

set_option maxHeartbeats 400000 in
theorem index_any (b : Nat) (L : List ByteArray) (s : ByteArray) (w : World) (h : Names w b L) (hs : s.size ≤ maxLen) :
    Calls Try.prog 18 #[.pointer (some ⟨b, 0, none⟩), .string s] w fun e w' => e = .returned (.tuple #[.int .u32 (atIdx L s), .bool (hasIdx L s)]) ∧ w' = w := by
  obtain ⟨a, n, c, m, h⟩ := h
  have x1 := h.c1
  have hl := look_idx h.map hs
  go_enter Try.func18, Try.ntmps18
  go_wp2
  go_ret2
  exact ⟨rfl, rfl⟩

theorem hasIdx_iff {L : List ByteArray} {s : ByteArray} : hasIdx L s = true ↔ s ∈ L := by
  unfold hasIdx
  cases h : lastIdx L s with
  | none => simpa using lastIdx_none.1 h
  | some i =>
    obtain ⟨h1, h2⟩ := lastIdx_some h
    simpa [← h2] using nth_mem h1

theorem hasIdx_false {L : List ByteArray} {s : ByteArray} : hasIdx L s = false ↔ s ∉ L := by
  rw [← hasIdx_iff]; simp

theorem atIdx_lt {L : List ByteArray} {s : ByteArray} (h : s ∈ L) : 0 ≤ atIdx L s ∧ atIdx L s < L.length ∧ nth L (atIdx L s).toNat = s := by
  have := hasIdx_iff.2 h
  unfold hasIdx at this
  unfold atIdx
  cases hl : lastIdx L s with
  | none => rw [hl] at this; cases this
  | some i =>
    obtain ⟨h1, h2⟩ := lastIdx_some hl
    exact ⟨by simp, by simpa using h1, by simpa using h2⟩

theorem atIdx_bd (L : List ByteArray) (s : ByteArray) : 0 ≤ atIdx L s ∧ atIdx L s ≤ L.length := by
  unfold atIdx
  cases hl : lastIdx L s with
  | none => simp
  | some i =>
    obtain ⟨h1, _⟩ := lastIdx_some hl
    exact ⟨by simp, by simp; omega⟩

/-- Every name stands at the place that the index gives for it. -/
def Well (L : List ByteArray) : Prop := ∀ i, i < L.length → atIdx L (nth L i) = i
def wellB (L : List ByteArray) : Bool := (List.range L.length).all fun i => atIdx L (nth L i) == (i : Int)
theorem wellB_iff {L : List ByteArray} : wellB L = true ↔ Well L := by
  simp [wellB, Well]
theorem wellB_false {L : List ByteArray} {i : Nat} (hi : i < L.length) (h : atIdx L (nth L i) ≠ i) : wellB L = false := by
  cases hw : wellB L
  · rfl
  · exact absurd (wellB_iff.1 hw i hi) h

theorem retB {a b : Bool} (h : b = a) : Ending.returned (.bool a) = .returned (.bool b) := by rw [h]

set_option maxHeartbeats 400000 in
theorem well_any (b : Nat) (L : List ByteArray) (w : World) (h : Names w b L) :
    Calls Try.prog 15 #[.pointer (some ⟨b, 0, none⟩)] w fun e w' => e = .returned (.bool (wellB L)) ∧ w' = w := by
  have hN := h
  obtain ⟨a, n, c, m, h⟩ := h
  have hS := h.strs
  have hl := hS.len
  have hsm := h.small
  go_enter Try.func15, Try.ntmps15
  go_wp2_with fail
  refine (list_any b a n c m L w h).mono ?_
  rintro e w1 ⟨rfl, rfl⟩
  go_wp2
  go_loop [4] (fun i => ∃ k : Nat, k ≤ n ∧ i = .int .i64 k ∧ ∀ i, i < k → atIdx L (nth L i) = i) (fun i => n - (intOf i).toNat)
  case atStart => exact ⟨0, Nat.zero_le _, rfl, fun i hi => by omega⟩
  case round =>
    obtain ⟨k, hk, rfl, hall⟩ := hrel
    have HA := hide hall
    clear hall
    by_cases hlt : k < n
    · have z1 := hS.ix k hlt
      have z2 := hS.at hlt
      have z3 := hS.small hlt
      have hmem : nth L k ∈ L := nth_mem (by omega)
      have hh := hasIdx_iff.2 hmem
      obtain ⟨b1, b2, b3⟩ := atIdx_lt hmem
      clear b3 hmem
      go_wp2_with fail
      refine (index_any b L (nth L k) _ hN z3).mono ?_
      rintro e w1 ⟨rfl, rfl⟩
      by_cases hq : atIdx L (nth L k) = k
      · have hqb : (atIdx L (nth L k) != (k : Int)) = false := by simp [hq]
        go_wp2
        go_round
        case rel => exact ⟨k + 1, by omega, by go_num, fun i hi => by rcases Nat.lt_succ_iff_lt_or_eq.1 hi with h | h; exact HA.out i h; subst h; exact hq⟩
        case measure => simp [intOf]; omega
      · have hqb : (atIdx L (nth L k) != (k : Int)) = true := by simp [hq]
        have hfin := wellB_false (by omega) hq
        go_wp2
        go_ret
        exact ⟨retB hfin, rfl⟩
    · have hfin : wellB L = true := wellB_iff.2 (fun i hi => HA.out i (by omega))
      go_wp2
      go_ret
      exact ⟨rfl, rfl⟩

end Go.Proofs.Qxb6600067a
