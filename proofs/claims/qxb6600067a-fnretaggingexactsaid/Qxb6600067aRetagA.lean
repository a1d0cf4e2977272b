/-
  (*names).retagging where no name of the table is sent elsewhere.
-/
import Derived.Test.Qxb6600067aNames2
namespace Go.Proofs.Qxb6600067a
open Go.RowKit

theorem beq_toList (a b : ByteArray) : (a.toList == b.toList) = decide (a = b) := by
  by_cases h : a = b
  · simp [h]
  · have : a.toList ≠ b.toList := fun e => h (lit_inj (by rw [← ByteArray.toList_eq, ← ByteArray.toList_eq, e]))
    simp [h, this]

theorem beq_of_eq {a b : ByteArray} (h : a = b) : (a.toList == b.toList) = true := by rw [beq_toList]; simp [h]
theorem beq_of_ne {a b : ByteArray} (h : a ≠ b) : (a.toList == b.toList) = false := by rw [beq_toList]; simp [h]

set_option maxHeartbeats 400000 in
theorem retag_none (b bh nh : Nat) (L : List ByteArray) (g : ByteArray → Option ByteArray) (w : World) (hN : Names w b L) (hM : MapAt Try.prog 9 w bh nh (fun s => (g s).map Value.string))
    (hg : ∀ s h, g s = some h → s ∈ L → h = s) :
    Calls Try.prog 39 #[.pointer (some ⟨b, 0, none⟩), .map (some bh)] w fun e w' => e = .returned (.tuple #[.pointer (some ⟨b, 0, none⟩), .slice none 0 0]) ∧ Below w.heap.size w w' := by
  have qn : ∀ (w : World) (a : Option Addr) (n c : Nat), (binOp .eql 69 (.slice a n c) (.slice none 0 0)).run Try.prog w = .ok (.bool a.isNone) w := fun w a n c => Lib.run_eql_slice_nil w 69 73 a n c 0 0 Try.underlying69
  go_enter Try.func39, Try.ntmps39
  go_wp2_with (first
    | (at_range; refine wpList_range _ rfl _ 39 rfl 9 9 Try.underlying9 Try.underlying39 bh nh _ rfl hM ?_; intro w0 hR0 hg0 hs0)
    | go_in)
  go_frame
  go_loopw [0, 6] (fun p mv wr => p = .pointer (some ⟨b, 0, none⟩) ∧ mv = .slice none 0 0 ∧ ∃ left, RangeAt Try.prog 9 wr bh w.heap.size nh (fun s => (g s).map Value.string) left ∧ Names wr b L ∧ Below w.heap.size w wr) (fun _ _ wr => wr.rangeLeft bh w.heap.size)
  case atStart => 
    have hb0 := (Below.refl w.heap.size w).grown hg0 (Nat.le_refl _) (by simp)
    exact ⟨rfl, rfl, _, hR0, hN.later hb0, hb0⟩
  case round =>
    obtain ⟨rfl, rfl, left, hR, hNr, hbl⟩ := hrel
    go_wp2_with (first
      | (at_next; refine wpList_next_mk Value.string g _ rfl _ rfl 9 Try.underlying9 bh w.heap.size nh _ rfl hR ?_ ?_)
      | go_in)
    · intro _
      go_wp2
      go_ret2
      exact ⟨rfl, hbl⟩
    · intro s h w1 hs hl hgs hR1 hlt hg1 hs1 hen
      have hbl1 : Below w.heap.size w w1 := hbl.grown hg1 hbl.size (fun j hj => by cases hj; exact Nat.le_refl _)
      have hN1 := hN.later hbl1
      have hN1' := hN1
      obtain ⟨a, n, c, m, hNa⟩ := hN1'
      have x1 := hNa.c1
      have hlk := look_idx hNa.map hs
      by_cases hm : s ∈ L
      · have hh := hasIdx_iff.2 hm
        have hq : (!(h.toList == s.toList)) = false := by rw [beq_toList, hg s h hgs hm]; simp
        go_wp2
        go_roundw
        case rel => exact ⟨rfl, rfl, _, hR1, hN1, hbl1⟩
        case measure => exact hlt
      · have hh := hasIdx_false.2 hm
        go_wp2
        go_roundw
        case rel => exact ⟨rfl, rfl, _, hR1, hN1, hbl1⟩
        case measure => exact hlt
end Go.Proofs.Qxb6600067a
