/-
  Slices of strings in memory, the small functions on them: walks over the seat's program.
-/
import Derived.Test.Qxb6600067aProg
import Derived.Test.Qxb6600067aMaps
import Derived.KernelRfl
namespace Go.Proofs.Qxb6600067a
open Go.RowKit

theorem hide {p : Prop} (h : p) : Hid p := h

theorem below_via {w X Y : World} (h1 : Below w.heap.size w X) (h2 : Below X.heap.size X Y) : Below w.heap.size w Y := h1.trans (h2.mono h1.size)
theorem below1 (w : World) (o : Obj) : Below w.heap.size w (w.alloc o) := (Below.refl _ _).alloc (Nat.le_refl _) _
theorem below2 (w : World) (o p : Obj) : Below w.heap.size w ((w.alloc o).alloc p) := (below1 w o).alloc (by simp) _

/-! ### rows of one-cell elements -/
def adOf (a : Option Addr) (k : Nat) : Addr := match a with | some x => x.add k | none => ⟨0, 0, none⟩

/-- The first n elements of a row that begins at a, one cell each. -/
def Cells1 (w : World) (a : Option Addr) (n : Nat) (f : Nat → Value) : Prop := ∀ i, i < n → ∃ x, a = some x ∧ w.cell? (x.add i) = some (f i)

theorem Cells1.at {w : World} {a : Option Addr} {n : Nat} {f : Nat → Value} (h : Cells1 w a n f) {i : Nat} (hi : i < n) : w.cell? (adOf a i) = some (f i) := by
  obtain ⟨x, rfl, hx⟩ := h i hi
  exact hx

theorem Cells1.ix {w : World} {a : Option Addr} {n : Nat} {f : Nat → Value} (h : Cells1 w a n f) {P : Program} {t e : TypeId} (c : Nat) (ht : P.underlying t = some (.slice e)) (hs : ∀ W, (sizeOf e).run P W = .ok 1 W) (i : Nat) (hi : i < n) (W : World) :
    (Instr.indexAt t (.slice a n c) (.int .i64 (i : Int))).run P W = .ok (.pointer (some (adOf a i))) W := by
  obtain ⟨x, rfl, _⟩ := h i hi
  have h0 : (0 : Int) ≤ (i : Int) := by omega
  have h1 : ¬ n ≤ i := by omega
  simp [Instr.indexAt, run_underlying ht, asIntOf, h0, hs, adOf, Result.andThen, h1]

theorem Cells1.later {w w' : World} {a : Option Addr} {n : Nat} {f : Nat → Value} (h : Cells1 w a n f) (hb : Below w.heap.size w w') : Cells1 w' a n f := by
  intro i hi
  obtain ⟨x, e, hx⟩ := h i hi
  exact ⟨x, e, cell_later hb hx⟩

theorem Cells1.of_owns {w : World} {base : Nat} {e : TypeId} {v : Value} {n : Nat} {xs : List Value} (h : w.ownsRow base e 1 v n xs) {f : Nat → Value} (hf : ∀ i, i < n → xs[i]? = some (f i)) : ∃ a c, v = .slice a n c ∧ Cells1 w a n f ∧ (a = none → c = 0) ∧ n ≤ maxLen := by
  have hc := @World.ownsRow.cells _ _ _ _ _ _ _ h
  rcases h.2 with ⟨rfl, rfl⟩ | ⟨g, cap, cur, rfl, hb, hg, h1, h2, h3, h4⟩
  · exact ⟨none, 0, rfl, fun i hi => by omega, fun _ => rfl, Nat.zero_le _⟩
  · exact ⟨_, _, rfl, fun i hi => ⟨_, rfl, hc rfl i _ (hf i hi)⟩, (fun h => by cases h), Nat.le_trans h1 h2⟩

/-! ### slices of strings -/
def nth (ss : List ByteArray) (i : Nat) : ByteArray := ss.getD i ByteArray.empty

theorem nth_get {ss : List ByteArray} {i : Nat} (h : i < ss.length) : ss[i]? = some (nth ss i) := by
  simp [nth, List.getD, List.getElem?_eq_getElem h]

theorem nth_eq {ss : List ByteArray} {i : Nat} (h : i < ss.length) : nth ss i = ss[i] := by
  simp [nth, List.getD, List.getElem?_eq_getElem h]

theorem nth_mem {ss : List ByteArray} {i : Nat} (h : i < ss.length) : nth ss i ∈ ss := by
  rw [nth_eq h]; exact List.getElem_mem h

structure Strs (w : World) (a : Option Addr) (n c : Nat) (ss : List ByteArray) : Prop where
  len : ss.length = n
  max : n ≤ maxLen
  each : ∀ s ∈ ss, s.size ≤ maxLen
  cells : Cells1 w a n (fun i => .string (nth ss i))
  nil : a = none → c = 0

theorem Strs.later {w w' : World} {a : Option Addr} {n c : Nat} {ss : List ByteArray} (h : Strs w a n c ss) (hb : Below w.heap.size w w') : Strs w' a n c ss :=
  ⟨h.len, h.max, h.each, h.cells.later hb, h.nil⟩

theorem size9 (W : World) : (sizeOf 9).run Try.prog W = .ok 1 W := by kernel_rfl

theorem Strs.ix {w : World} {a : Option Addr} {n c : Nat} {ss : List ByteArray} (h : Strs w a n c ss) (i : Nat) (hi : i < n) (W : World) :
    (Instr.indexAt 22 (.slice a n c) (.int .i64 (i : Int))).run Try.prog W = .ok (.pointer (some (adOf a i))) W := h.cells.ix c Try.underlying22 size9 i hi W

theorem Strs.at {w : World} {a : Option Addr} {n c : Nat} {ss : List ByteArray} (h : Strs w a n c ss) {i : Nat} (hi : i < n) : w.cell? (adOf a i) = some (.string (nth ss i)) := h.cells.at hi

theorem Strs.small {w : World} {a : Option Addr} {n c : Nat} {ss : List ByteArray} (h : Strs w a n c ss) {i : Nat} (hi : i < n) : (nth ss i).size ≤ maxLen := h.each _ (nth_mem (by rw [h.len]; exact hi))

theorem Strs.of_owns {w : World} {base : Nat} {v : Value} {n : Nat} {ss : List ByteArray} (h : w.ownsRow base 9 1 v n (ss.map Value.string)) (hs : ∀ s ∈ ss, s.size ≤ maxLen) : ∃ a c, v = .slice a n c ∧ Strs w a n c ss := by
  have hl : ss.length = n := by have := h.1; simpa using this
  obtain ⟨a, c, rfl, h1, h2, h3⟩ := Cells1.of_owns h (f := fun i => .string (nth ss i)) (fun i hi => by rw [List.getElem?_map, nth_get (by omega)]; rfl)
  exact ⟨a, c, rfl, hl, h3, hs, h1, h2⟩

/-- As the source of an append. -/
theorem Strs.news {w : World} {a : Option Addr} {n c : Nat} {ss : List ByteArray} (h : Strs w a n c ss) : ∀ ad, a = some ad → ∀ j u, (ss.map Value.string)[j]? = some u → w.cell? (ad.add j) = some u := by
  intro ad hd j u hu
  have hj : j < n := by
    have := (List.getElem?_eq_some_iff.1 hu).1
    simpa [h.len] using this
  obtain ⟨x, hx, hc⟩ := h.cells j hj
  rw [hd] at hx
  cases hx
  rw [hc]
  rw [List.getElem?_map, nth_get (by rw [h.len]; exact hj)] at hu
  exact hu

theorem strs_oneCell (ss : List ByteArray) : ∀ u ∈ ss.map Value.string, u.oneCell' = true := by
  intro u hu
  obtain ⟨_, _, rfl⟩ := List.mem_map.1 hu
  rfl

theorem info9 : (Try.prog.info? 9).map (fun i => (i.zero, i.size, i.bytes)) = some (some (.string ByteArray.empty), 1, 16) := by kernel_rfl

/-! ### addStringBytes: it returns some number -/
set_option maxHeartbeats 400000 in
theorem addB_any (a : Option Addr) (n c : Nat) (ss : List ByteArray) (t : Int) (w : World) (hS : Strs w a n c ss) :
    Calls Try.prog 12 #[.int .i64 t, .slice a n c] w fun e w' => (∃ r, e = .returned (.int .i64 r)) ∧ w' = w := by
  have hn := hS.max
  unfold maxLen at hn
  go_enter Try.func12, Try.ntmps12
  go_wp2
  go_loop [0, 5] (fun t i => ∃ (z : Int) (k : Nat), k ≤ n ∧ i = .int .i64 k ∧ t = .int .i64 z) (fun _ i => n - (intOf i).toNat)
  case atStart => exact ⟨t, 0, Nat.zero_le _, rfl, rfl⟩
  case round =>
    obtain ⟨z, k, hk, rfl, rfl⟩ := hrel
    by_cases hlt : k < n
    · have h1 := hS.ix k hlt
      have h2 := hS.at hlt
      by_cases hz : 1048576 < z
      · go_wp2
        go_ret
        exact ⟨⟨_, rfl⟩, rfl⟩
      · have hd : decide (1048576 < z) = false := by simpa using hz
        by_cases hs : 1048576 < ((nth ss k).size : Int)
        · go_wp2
          go_ret
          exact ⟨⟨_, rfl⟩, rfl⟩
        · go_wp2
          go_round
          case rel => exact ⟨_, k + 1, by omega, by go_num, rfl⟩
          case measure => simp [intOf]; omega
    · by_cases hz : 1048576 < z
      · go_wp2
        go_ret
        exact ⟨⟨_, rfl⟩, rfl⟩
      · go_wp2
        go_ret
        exact ⟨⟨_, rfl⟩, rfl⟩

/-! ### cloneStrings -/
theorem take_set_snoc {α : Type} (xs ys : List α) (k : Nat) (u : α) (h : xs.take k = ys) (hk : k < xs.length) : (xs.set k u).take (k + 1) = ys ++ [u] := by
  subst h
  rw [List.take_succ_eq_append_getElem (by simpa using hk)]
  simp [List.take_set_of_le]

set_option maxHeartbeats 800000 in
theorem clone_any (a : Option Addr) (n c : Nat) (ss : List ByteArray) (w : World) (hS : Strs w a n c ss) (hn : n ≤ 1048576) :
    Calls Try.prog 13 #[.slice a n c] w fun e w' => ∃ a' c', e = .returned (.slice a' n c') ∧ Strs w' a' n c' ss ∧ Below w.heap.size w w' := by
  have qn : ∀ (w : World) (a : Option Addr) (n c : Nat), (binOp .eql 22 (.slice a n c) (.slice none 0 0)).run Try.prog w = .ok (.bool a.isNone) w := fun w a n c => Lib.run_eql_slice_nil w 22 9 a n c 0 0 Try.underlying22
  obtain ⟨i0, hi, hz0, hz1, hz2⟩ := info_parts info9
  cases a with
  | none =>
    go_enter Try.func13, Try.ntmps13
    go_wp2
    go_ret
    have h0 : n = 0 := by
      rcases Nat.eq_zero_or_pos n with h | h
      · exact h
      · obtain ⟨x, hx, _⟩ := hS.cells 0 h
        cases hx
    subst h0
    exact ⟨none, 0, rfl, ⟨hS.len, hS.max, hS.each, (fun i hi => by omega), fun _ => rfl⟩, Below.refl _ _⟩
  | some ad =>
    go_enter Try.func13, Try.ntmps13
    go_wp2_with (first
      | (at_make; refine wpList_make_full _ rfl _ _ 22 rfl w.heap.size 9 i0 (.string ByteArray.empty) 1 Try.underlying22 hi hz0 hz1 _ _ _ _ n rfl rfl rfl rfl ?b1 ?b2 ?b3 ?_)
      | go_in)
    case b1 => rw [hz2]; omega
    case b2 => unfold maxLen; omega
    case b3 => exact Nat.le_refl _
    intro w0 hown0 hg0
    have hl := hS.len

    go_wp2
    go_loopw [4] (fun i wr => ∃ (k : Nat) (xs : List Value), k ≤ n ∧ i = .int .i64 k ∧ wr.ownsRow w.heap.size 9 1 (.slice (some ⟨w.heap.size, 0, none⟩) n n) n xs ∧ xs.take k = (ss.take k).map Value.string ∧ Below w.heap.size w wr) (fun i _ => n - (intOf i).toNat)
    case atStart => exact ⟨0, _, Nat.zero_le _, rfl, hown0, by simp, (Below.refl _ _).grown hg0 (Nat.le_refl _) (by simp)⟩
    case round =>
      obtain ⟨k, xs, hk, rfl, hown, htk, hbl⟩ := hrel
      by_cases hlt : k < n
      · have h1 := hS.ix k hlt
        have h2 := (hS.later hbl).at hlt
        have h3 := hown.frozenAt k
        have h4 := hown.cellAt k (by omega)
        have hx : k < xs.length := by have := hown.1; omega
        rw [List.getElem?_eq_getElem hx] at h4
        have hs := hown.stored k (.string (nth ss k))
        have HS := hide hs
        clear hs
        go_wp2
        go_roundw
        case rel =>
          have hs := HS.out
          refine ⟨k + 1, _, by omega, by go_num, hs.1, ?_, hbl.grown hs.2 hbl.size (fun j hj => by cases hj; exact Nat.le_refl _)⟩
          rw [take_set_snoc xs _ k _ htk hx, List.take_succ_eq_append_getElem (by omega), List.map_append, nth_eq (by omega)]
          rfl
        case measure => simp [intOf]; omega
      · have hkn : k = n := by omega
        go_wp2
        go_ret
        subst hkn
        have hxs : xs = ss.map Value.string := by
          have e1 : xs.take k = xs := List.take_of_length_le (by have := hown.1; omega)
          have e2 : ss.take k = ss := List.take_of_length_le (by omega)
          rw [e1, e2] at htk
          exact htk
        rw [hxs] at hown
        obtain ⟨a', c', e, hS'⟩ := Strs.of_owns hown hS.each
        exact ⟨a', c', congrArg Ending.returned e, hS', hbl⟩
end Go.Proofs.Qxb6600067a
