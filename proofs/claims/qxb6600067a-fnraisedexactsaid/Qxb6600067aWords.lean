/-
  Slices of unsigned words in memory; cloneU64s, floorBytes, zzBytes of the law.
-/
import Derived.Test.Qxb6600067aBytes
namespace Go.Proofs.Qxb6600067a
open Go.RowKit

abbrev uv (x : Nat) : Value := .int .u64 (x : Int)
def nn (ss : List Nat) (i : Nat) : Nat := ss.getD i 0

theorem nn_get {ss : List Nat} {i : Nat} (h : i < ss.length) : ss[i]? = some (nn ss i) := by
  simp [nn, List.getD, List.getElem?_eq_getElem h]
theorem nn_eq {ss : List Nat} {i : Nat} (h : i < ss.length) : nn ss i = ss[i] := by
  simp [nn, List.getD, List.getElem?_eq_getElem h]
theorem nn_mem {ss : List Nat} {i : Nat} (h : i < ss.length) : nn ss i ∈ ss := by
  rw [nn_eq h]; exact List.getElem_mem h

structure U64s (w : World) (a : Option Addr) (n c : Nat) (ss : List Nat) : Prop where
  len : ss.length = n
  max : n ≤ maxLen
  each : ∀ s ∈ ss, s < 18446744073709551616
  cells : Cells1 w a n (fun i => uv (nn ss i))
  nil : a = none → c = 0

theorem U64s.later {w w' : World} {a : Option Addr} {n c : Nat} {ss : List Nat} (h : U64s w a n c ss) (hb : Below w.heap.size w w') : U64s w' a n c ss :=
  ⟨h.len, h.max, h.each, h.cells.later hb, h.nil⟩

theorem size36 (W : World) : (sizeOf 36).run Try.prog W = .ok 1 W := by kernel_rfl

theorem U64s.ix {w : World} {a : Option Addr} {n c : Nat} {ss : List Nat} (h : U64s w a n c ss) (i : Nat) (hi : i < n) (W : World) :
    (Instr.indexAt 43 (.slice a n c) (.int .i64 (i : Int))).run Try.prog W = .ok (.pointer (some (adOf a i))) W := h.cells.ix c Try.underlying43 size36 i hi W

theorem U64s.at {w : World} {a : Option Addr} {n c : Nat} {ss : List Nat} (h : U64s w a n c ss) {i : Nat} (hi : i < n) : w.cell? (adOf a i) = some (.int .u64 ((nn ss i : Nat) : Int)) := h.cells.at hi

theorem U64s.small {w : World} {a : Option Addr} {n c : Nat} {ss : List Nat} (h : U64s w a n c ss) {i : Nat} (hi : i < n) : nn ss i < 18446744073709551616 := h.each _ (nn_mem (by rw [h.len]; exact hi))

theorem U64s.of_owns {w : World} {base : Nat} {v : Value} {n : Nat} {ss : List Nat} (h : w.ownsRow base 36 1 v n (ss.map uv)) (hs : ∀ s ∈ ss, s < 18446744073709551616) : ∃ a c, v = .slice a n c ∧ U64s w a n c ss := by
  have hl : ss.length = n := by have := h.1; simpa using this
  obtain ⟨a, c, rfl, h1, h2, h3⟩ := Cells1.of_owns h (f := fun i => uv (nn ss i)) (fun i hi => by rw [List.getElem?_map, nn_get (by omega)]; rfl)
  exact ⟨a, c, rfl, hl, h3, hs, h1, h2⟩

theorem info36 : (Try.prog.info? 36).map (fun i => (i.zero, i.size, i.bytes)) = some (some (.int .u64 0), 1, 8) := by kernel_rfl

set_option maxHeartbeats 800000 in
theorem cloneU_any (a : Option Addr) (n c : Nat) (ss : List Nat) (w : World) (hS : U64s w a n c ss) (hn : n ≤ 1048576) :
    Calls Try.prog 27 #[.slice a n c] w fun e w' => ∃ a' c', e = .returned (.slice a' n c') ∧ U64s w' a' n c' ss ∧ Below w.heap.size w w' := by
  have qn : ∀ (w : World) (a : Option Addr) (n c : Nat), (binOp .eql 43 (.slice a n c) (.slice none 0 0)).run Try.prog w = .ok (.bool a.isNone) w := fun w a n c => Lib.run_eql_slice_nil w 43 36 a n c 0 0 Try.underlying43
  obtain ⟨i0, hi, hz0, hz1, hz2⟩ := info_parts info36
  cases a with
  | none =>
    go_enter Try.func27, Try.ntmps27
    go_wp2
    go_ret
    have h0 : n = 0 := by
      rcases Nat.eq_zero_or_pos n with h | h
      · exact h
      · obtain ⟨x, hx, _⟩ := hS.cells 0 h
        cases hx
    subst h0
    exact ⟨none, 0, rfl, ⟨hS.len, hS.max, hS.each, (fun i hi => by omega), fun _ => rfl⟩, Below.refl _ _⟩
  | some ad =>
    go_enter Try.func27, Try.ntmps27
    go_wp2_with (first
      | (at_make; refine wpList_make_full _ rfl _ _ 43 rfl w.heap.size 36 i0 (.int .u64 0) 1 Try.underlying43 hi hz0 hz1 _ _ _ _ n rfl rfl rfl rfl ?b1 ?b2 ?b3 ?_)
      | go_in)
    case b1 => rw [hz2]; omega
    case b2 => unfold maxLen; omega
    case b3 => exact Nat.le_refl _
    intro w0 hown0 hg0
    have hl := hS.len

    go_wp2
    go_loopw [4] (fun i wr => ∃ (k : Nat) (xs : List Value), k ≤ n ∧ i = .int .i64 k ∧ wr.ownsRow w.heap.size 36 1 (.slice (some ⟨w.heap.size, 0, none⟩) n n) n xs ∧ xs.take k = (ss.take k).map uv ∧ Below w.heap.size w wr) (fun i _ => n - (intOf i).toNat)
    case atStart => exact ⟨0, _, Nat.zero_le _, rfl, hown0, by simp, (Below.refl _ _).grown hg0 (Nat.le_refl _) (by simp)⟩
    case round =>
      obtain ⟨k, xs, hk, rfl, hown, htk, hbl⟩ := hrel
      by_cases hlt : k < n
      · have h1 := hS.ix k hlt
        have h2 := (hS.later hbl).at hlt
        have h3 := hown.frozenAt k
        have h4 := hown.cellAt k (by omega)
        have hx : k < xs.length := by have := hown.1; omega
        rw [List.getElem?_eq_getElem hx] at h4
        have hs := hown.stored k (uv (nn ss k))
        have HS := hide hs
        clear hs
        go_wp2
        go_roundw
        case rel =>
          have hs := HS.out
          refine ⟨k + 1, _, by omega, by go_num, hs.1, ?_, hbl.grown hs.2 hbl.size (fun j hj => by cases hj; exact Nat.le_refl _)⟩
          rw [take_set_snoc xs _ k _ htk hx, List.take_succ_eq_append_getElem (by omega), List.map_append, nn_eq (by omega)]
          rfl
        case measure => simp [intOf]; omega
      · have hkn : k = n := by omega
        go_wp2
        go_ret
        subst hkn
        have hxs : xs = ss.map uv := by
          have e1 : xs.take k = xs := List.take_of_length_le (by have := hown.1; omega)
          have e2 : ss.take k = ss := List.take_of_length_le (by omega)
          rw [e1, e2] at htk
          exact htk
        rw [hxs] at hown
        obtain ⟨a', c', e, hS'⟩ := U64s.of_owns hown hS.each
        exact ⟨a', c', congrArg Ending.returned e, hS', hbl⟩


set_option maxHeartbeats 1000000 in
theorem fbytes_any (a0 a1 a2 a3 : Option Addr) (n0 c0 n1 c1 n2 c2 n3 c3 : Nat) (s0 s1 s2 : List Nat) (s3 : List ByteArray) (w : World) (h0 : U64s w a0 n0 c0 s0) (h1 : U64s w a1 n1 c1 s1) (h2 : U64s w a2 n2 c2 s2) (h3 : Strs w a3 n3 c3 s3) :
    Calls Try.prog 26 #[.slice a0 n0 c0, .slice a1 n1 c1, .slice a2 n2 c2, .slice a3 n3 c3] w fun e w' => (∃ r, e = .returned (.int .i64 r)) ∧ w' = w := by
  go_enter Try.func26, Try.ntmps26
  go_wp2_with fail
  refine (addB_any a3 n3 c3 s3 _ _ h3).mono ?_
  rintro e w1 ⟨⟨r, rfl⟩, rfl⟩
  go_wp2
  go_ret
  exact ⟨⟨_, rfl⟩, rfl⟩

set_option maxHeartbeats 1000000 in
theorem zz25 (a0 a1 a2 a3 : Option Addr) (n0 c0 n1 c1 n2 c2 n3 c3 : Nat) (s0 s1 s2 : List Nat) (s3 : List ByteArray) (x y z : Int) (s : ByteArray) (w : World) (h0 : U64s w a0 n0 c0 s0) (h1 : U64s w a1 n1 c1 s1) (h2 : U64s w a2 n2 c2 s2) (h3 : Strs w a3 n3 c3 s3) :
    Calls Try.prog 25 #[.slice a0 n0 c0, .slice a1 n1 c1, .slice a2 n2 c2, .slice a3 n3 c3, .int .u64 x, .int .u64 y, .int .u64 z, .string s] w fun e w' => SomeBool e ∧ w' = w := by
  have m0 := h0.max
  unfold maxLen at m0
  have m1 := h1.max
  unfold maxLen at m1
  have m2 := h2.max
  unfold maxLen at m2
  have m3 := h3.max
  unfold maxLen at m3
  go_enter Try.func25, Try.ntmps25
  go_wp2
  all_goals first | (go_ret; exact ⟨someBool _, rfl⟩) | skip
  go_loop [17, 18] (fun t i => ∃ (z : Int) (k : Nat), k ≤ n3 ∧ i = .int .i64 k ∧ t = .int .i64 z) (fun _ i => n3 - (intOf i).toNat)
  case atStart => exact ⟨_, 0, Nat.zero_le _, rfl, rfl⟩
  case round =>
    obtain ⟨zz, k, hk, rfl, rfl⟩ := hrel
    by_cases hlt : k < n3
    · have x1 := h3.ix k hlt
      have x2 := h3.at hlt
      go_wp2
      · go_ret
        exact ⟨someBool _, rfl⟩
      · go_ret
        exact ⟨someBool _, rfl⟩
      · go_round
        case rel => exact ⟨_, k + 1, by omega, by go_num, rfl⟩
        case measure => simp [intOf]; omega
    go_wp2
    all_goals (go_ret; exact ⟨someBool _, rfl⟩)
end Go.Proofs.Qxb6600067a
