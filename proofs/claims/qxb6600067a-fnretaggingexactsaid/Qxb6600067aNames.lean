/-
  The table of names: (*names).adding, ZZNamesOf, ZZList, ZZIndex, wellIndexed.
-/
import Derived.Test.Qxb6600067aConcat
import Derived.Deep.RegionHeld
import Derived.Deep.CutRange
namespace Go.Proofs.Qxb6600067a
open Go.RowKit

/-! ### the last place of a name -/
def lastIdx : List ByteArray → ByteArray → Option Nat
  | [], _ => none
  | x :: r, s => match lastIdx r s with
    | some i => some (i + 1)
    | none => if s = x then some 0 else none

theorem lastIdx_snoc (L : List ByteArray) (x s : ByteArray) : lastIdx (L ++ [x]) s = if s = x then some L.length else lastIdx L s := by
  induction L with
  | nil => simp [lastIdx]
  | cons y r ih =>
    simp only [List.cons_append, lastIdx, ih]
    by_cases h : s = x
    · simp [h]
    · simp [h]

theorem lastIdx_some {L : List ByteArray} {s : ByteArray} {i : Nat} (h : lastIdx L s = some i) : i < L.length ∧ nth L i = s := by
  induction L generalizing i with
  | nil => cases h
  | cons y r ih =>
    simp only [lastIdx] at h
    cases hr : lastIdx r s with
    | some j =>
      rw [hr] at h
      cases h
      obtain ⟨h1, h2⟩ := ih hr
      exact ⟨by simp; omega, by simpa [nth] using h2⟩
    | none =>
      rw [hr] at h
      by_cases e : s = y
      · simp [e] at h
        subst h
        exact ⟨by simp, by simp [nth, e]⟩
      · simp [e] at h

theorem lastIdx_none {L : List ByteArray} {s : ByteArray} : lastIdx L s = none ↔ s ∉ L := by
  induction L with
  | nil => simp [lastIdx]
  | cons y r ih =>
    simp only [lastIdx]
    cases hr : lastIdx r s with
    | some j =>
      have : s ∈ r := by
        apply Classical.byContradiction
        intro hn
        rw [ih.2 hn] at hr
        cases hr
      simp [this]
    | none =>
      have := ih.1 hr
      by_cases e : s = y <;> simp [e, this]

def idx (L : List ByteArray) (s : ByteArray) : Option Value := (lastIdx L s).map fun i => .int .u32 (i : Int)

theorem idx_take_succ {L : List ByteArray} {k : Nat} (hk : k < L.length) (x : ByteArray) : idx (L.take (k + 1)) x = if x = nth L k then some (.int .u32 (k : Int)) else idx (L.take k) x := by
  rw [List.take_succ_eq_append_getElem hk, ← nth_eq hk]
  unfold idx
  rw [lastIdx_snoc]
  by_cases h : x = nth L k
  · simp [h, Nat.min_eq_left (Nat.le_of_lt hk)]
  · simp [h]

structure NamesAt (w : World) (b : Nat) (a : Option Addr) (n c m : Nat) (L : List ByteArray) : Prop where
  blk : w.heap[b]? = some (.cells #[.slice a n c, .map (some m)] 63 (0, 0))
  c0 : w.cell? ⟨b, 0, none⟩ = some (.slice a n c)
  c1 : w.cell? ⟨b, 1, none⟩ = some (.map (some m))
  strs : Strs w a n c L
  map : MapAt Try.prog 9 w m n (idx L)
  small : n ≤ 1048576
  row : RowOf w a 9

theorem NamesAt.later {w w' : World} {b : Nat} {a : Option Addr} {n c m : Nat} {L : List ByteArray} (h : NamesAt w b a n c m L) (hb : Below w.heap.size w w') : NamesAt w' b a n c m L :=
  ⟨(hb.block b (Array.getElem?_eq_some_iff.1 h.blk).1).trans h.blk, cell_later hb h.c0, cell_later hb h.c1, h.strs.later hb, h.map.below hb h.map.lt, h.small, h.row.later hb⟩

def Names (w : World) (b : Nat) (L : List ByteArray) : Prop := ∃ a n c m, NamesAt w b a n c m L

theorem Names.later {w w' : World} {b : Nat} {L : List ByteArray} (h : Names w b L) (hb : Below w.heap.size w w') : Names w' b L := by
  obtain ⟨a, n, c, m, h⟩ := h
  exact ⟨a, n, c, m, h.later hb⟩

/-- A cell lies in no map's block. -/
theorem MapAt.ne {P : Program} {k : TypeId} {w : World} {m n : Nat} {f : ByteArray → Option Value} (h : MapAt P k w m n f) {a : Addr} {v : Value} (hc : w.cell? a = some v) : a.block ≠ m := by
  obtain ⟨D, ⟨es, clock, hb, _⟩, _⟩ := h
  intro e
  rw [← e] at hb
  simp [World.cell?, hb] at hc

theorem MapAt.cell {P : Program} {k : TypeId} {w w' : World} {m n : Nat} {f : ByteArray → Option Value} (h : MapAt P k w m n f) (hg : w.grownBy w' (some m)) {a : Addr} {v : Value} (hc : w.cell? a = some v) : w'.cell? a = some v :=
  hg.cell hc (fun e => h.ne hc (Option.some.inj e))

theorem Cells1.map {P : Program} {k : TypeId} {w w' : World} {m n' : Nat} {f' : ByteArray → Option Value} {a : Option Addr} {n : Nat} {f : Nat → Value} (h : Cells1 w a n f) (hm : MapAt P k w m n' f') (hg : w.grownBy w' (some m)) : Cells1 w' a n f := by
  intro i hi
  obtain ⟨x, e, hx⟩ := h i hi
  exact ⟨x, e, hm.cell hg hx⟩

theorem Strs.map {P : Program} {k : TypeId} {w w' : World} {m n' : Nat} {f' : ByteArray → Option Value} {a : Option Addr} {n c : Nat} {ss : List ByteArray} (h : Strs w a n c ss) (hm : MapAt P k w m n' f') (hg : w.grownBy w' (some m)) : Strs w' a n c ss :=
  ⟨h.len, h.max, h.each, h.cells.map hm hg, h.nil⟩

/-- What 'adding' has made ahead of its loop. -/
structure Fresh (w W : World) (bp : Nat) (a : Option Addr) (n c m : Nat) (L : List ByteArray) : Prop where
  blk : W.heap[bp]? = some (.cells #[.slice a n c, .map (some m)] 63 (0, 0))
  c0 : W.cell? ⟨bp, 0, none⟩ = some (.slice a n c)
  c1 : W.cell? ⟨bp, 1, none⟩ = some (.map (some m))
  strs : Strs W a n c L
  map : MapAt Try.prog 9 W m 0 (fun _ => none)
  bp : w.heap.size ≤ bp
  mn : w.heap.size ≤ m
  below : Below w.heap.size w W
  row : RowOf W a 9

theorem fresh_mk {w wX : World} {a : Option Addr} {n c m : Nat} {L : List ByteArray} (hS : Strs wX a n c L) (hR : RowOf wX a 9) (hM : MapAt Try.prog 9 wX m 0 (fun _ => none)) (hm : w.heap.size ≤ m) (hB : Below w.heap.size w wX) :
    Fresh w (wX.alloc (.cells #[.slice a n c, .map (some m)] 63)) wX.heap.size a n c m L :=
  ⟨heap_alloc_new _ _, by simp, by simp, hS.later ((Below.refl _ _).alloc (Nat.le_refl _) _), hM.alloc _, hB.size, hm, hB.alloc hB.size _, hR.later ((Below.refl _ _).alloc (Nat.le_refl _) _)⟩

set_option maxHeartbeats 400000 in
theorem adding_any (b : Nat) (a0 a1 : Option Addr) (n0 c0 n1 c1 : Nat) (s0 s1 : List ByteArray) (w : World) (h0 : Strs w a0 n0 c0 s0) (h1 : Strs w a1 n1 c1 s1) (l : n0 + n1 ≤ 1048576)
    (x0 : w.cell? ⟨b, 0, none⟩ = some (.slice a0 n0 c0)) :
    Calls Try.prog 37 #[.pointer (some ⟨b, 0, none⟩), .slice a1 n1 c1] w fun e w' => ∃ b', e = .returned (.pointer (some ⟨b', 0, none⟩)) ∧ Names w' b' (s0 ++ s1) ∧ w.heap.size ≤ b' ∧ Below w.heap.size w w' := by
  have hmm := run_makeMap_hint (P := Try.prog) Try.underlying61
  go_enter Try.func37, Try.ntmps37
  go_wp2_with fail
  go_cut [5] from 6 to 44 (fun p W => ∃ bp a c m, p = .pointer (some ⟨bp, 0, none⟩) ∧ Fresh w W bp a (n0 + n1) c m (s0 ++ s1))
  case first =>
    go_region_held (fun w' => w'.cell? ⟨b, 0, none⟩ = some (.slice a0 n0 c0)) (first | go_keep | (refine cell_later hbX ?_; go_keep))
      (first | (go_at_call 42; refine (concat_any _ a0 a1 n0 c0 n1 c1 s0 s1 _ ?_ ?_ ?_ ?_ ?_ ?_).mono ?_; exact h0.later (by (repeat (first | exact Below.refl _ _ | refine Below.drew ?_ | refine Below.alloc ?_ (by simp) _))); exact h1.later (by (repeat (first | exact Below.refl _ _ | refine Below.drew ?_ | refine Below.alloc ?_ (by simp) _))); omega; omega; simp; simp; rintro e wX ⟨aX, cX, rfl, hSX, hRX, hbX⟩))
    all_goals (go_wp2; go_meet)
    case rel =>
      have hB : Below w.heap.size w wX := below_via (below1 w _).drew hbX
      have hB2 : Below w.heap.size w (wX.alloc (.map #[] 0)) := hB.alloc hB.size _
      have hf := fresh_mk (w := w) (m := wX.heap.size) (hSX.later ((Below.refl _ _).alloc (Nat.le_refl _) (.map #[] 0))) (hRX.later ((Below.refl _ _).alloc (Nat.le_refl _) (.map #[] 0))) (MapAt.made wX) hB.size hB2
      exact ⟨_, _, _, _, by simp, hf⟩
    case rel =>
      have hB : Below w.heap.size w wX := below_via (below2 w _ _).drew hbX
      have hM : MapAt Try.prog 9 wX (w.alloc (.cells #[.slice a0 n0 c0, .slice a1 n1 c1] 22)).heap.size 0 (fun _ => none) := (MapAt.made (w.alloc (.cells #[.slice a0 n0 c0, .slice a1 n1 c1] 22))).drew.below hbX (by simp)
      have hf := fresh_mk (w := w) hSX hRX hM (by simp) hB
      exact ⟨_, _, _, _, rfl, by simpa using hf⟩
    case rel =>
      have hB : Below w.heap.size w wX := below_via (below2 w _ _).drew hbX
      have hM : MapAt Try.prog 9 wX w.heap.size 0 (fun _ => none) := ((MapAt.made w).alloc (.cells #[.slice a0 n0 c0, .slice a1 n1 c1] 22)).drew.below hbX (by simp; omega)
      have hf := fresh_mk (w := w) hSX hRX hM (by simp) hB
      exact ⟨_, _, _, _, rfl, hf⟩
  case rest =>
    obtain ⟨bp, a, c, m, rfl, hF⟩ := hcut
    obtain ⟨yb, y0, y1, hS, hM, hbp, hmn, hbl, hRw⟩ := hF
    have hmb : some bp ≠ some m := fun e => hM.ne y0 (Option.some.inj e)
    have hl := hS.len
    have YB := hide yb
    clear yb
    go_wp2
    go_loopw [31] (fun i wr => ∃ k : Nat, k ≤ n0 + n1 ∧ i = .int .i64 k ∧ Hid (wr.heap[bp]? = some (.cells #[.slice a (n0 + n1) c, .map (some m)] 63 (0, 0))) ∧ wr.cell? ⟨bp, 0, none⟩ = some (.slice a (n0 + n1) c) ∧ wr.cell? ⟨bp, 1, none⟩ = some (.map (some m)) ∧ Strs wr a (n0 + n1) c (s0 ++ s1) ∧ MapAt Try.prog 9 wr m k (idx ((s0 ++ s1).take k)) ∧ RowOf wr a 9 ∧ Below w.heap.size w wr) (fun i _ => n0 + n1 - (intOf i).toNat)
    case atStart => exact ⟨0, Nat.zero_le _, rfl, YB, y0, y1, hS, hM.congr (fun s _ => by simp [idx, lastIdx]), hRw, hbl⟩
    case round =>
      clear YB y0 y1 hS hM hbl hRw
      obtain ⟨k, hk, rfl, YB, y0, y1, hS, hM, hRw, hbl⟩ := hrel
      by_cases hlt : k < n0 + n1
      · have z1 := hS.ix k hlt
        have z2 := hS.at hlt
        have z3 := hS.small hlt
        go_wp2_with (first
          | (at_mapUpdate; refine wpList_store _ rfl _ _ _ 61 rfl 9 33 Try.underlying9 Try.underlying61 m k _ rfl hM ?b1 _ _ rfl rfl z3 ?_)
          | go_in)
        case b1 => unfold maxLen; omega
        intro w2 hM2 hg2 hs2
        go_wp2
        go_roundw
        case rel =>
          exact ⟨k + 1, by omega, by go_num, hide ((hg2.block bp (Array.getElem?_eq_some_iff.1 YB.out).1 hmb).trans YB.out), hM.cell hg2 y0, hM.cell hg2 y1, hS.map hM hg2, hM2.congr (fun x _ => (idx_take_succ (by omega) x).symm), hRw.map hM hg2, hbl.grown hg2 hbl.size (fun j hj => by cases hj; exact hmn)⟩
        case measure => simp [intOf]; omega
      · have hkn : k = n0 + n1 := by omega
        subst hkn
        go_wp2
        go_ret
        rw [List.take_of_length_le (by omega)] at hM
        exact ⟨bp, rfl, ⟨a, _, c, m, YB.out, y0, y1, hS, hM, l, hRw⟩, hbp, hbl⟩
end Go.Proofs.Qxb6600067a
