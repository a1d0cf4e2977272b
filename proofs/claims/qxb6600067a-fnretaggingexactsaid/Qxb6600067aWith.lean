/-
  (*names).with: the walk.
-/
import Derived.Test.Qxb6600067aLists
import Derived.BigQuiet
import Derived.Deep.QuietTactic
namespace Go.Proofs.Qxb6600067a
open Go.RowKit

def withName (L : List ByteArray) (s : ByteArray) : List ByteArray := if hasIdx L s = true then L else L ++ [s]

theorem MapAt.drewN {P : Program} {k : TypeId} {w : World} {b n : Nat} {f : ByteArray → Option Value} (h : MapAt P k w b n f) (q : Nat) : MapAt P k (w.drewN q) b n f := h.block (by simp)

set_option maxHeartbeats 400000 in
theorem with_any (b : Nat) (L : List ByteArray) (s : ByteArray) (w : World) (hN : Names w b L) (hs : s.size ≤ maxLen) (l : L.length + 1 ≤ 1048576) :
    Calls Try.prog 43 #[.pointer (some ⟨b, 0, none⟩), .string s] w fun e w' => ∃ b', e = .returned (.tuple #[.pointer (some ⟨b', 0, none⟩), .int .u32 (atIdx (withName L s) s)]) ∧ Names w' b' (withName L s) ∧ Below w.heap.size w w' := by
  have hN' := hN
  obtain ⟨a, n, c, m, hNa⟩ := hN'
  have x1 := hNa.c1
  have hlk := look_idx hNa.map hs
  have hln := hNa.strs.len
  cases hh : hasIdx L s
  · have hW : withName L s = L ++ [s] := by unfold withName; simp [hh]
    rw [hW]
    go_enter Try.func43, Try.ntmps43
    go_wp2_with fail
    refine (adding_any b a _ n c 1 1 L [s] _ (hNa.strs.later (below1 w _)) (strs_one w s hs) (by omega) (cell_later (below1 w _) hNa.c0)).mono ?_
    rintro e w1 ⟨bm, rfl, hNm, _, hb1⟩
    have hNm' := hNm
    obtain ⟨a2, n2, c2, m2, hNb⟩ := hNm'
    have y1 := hNb.c1
    have hlk2 : ∀ q, (Instr.lookup 61 (.map (some m2)) (.string s) false).run Try.prog (w1.drewN q) = .ok (.int .u32 (atIdx (L ++ [s]) s)) (w1.drewN q) := fun q => look_idx' (hNb.map.drewN q) hs
    clear hlk x1
    go_wp2
    go_quiet (fail)
    go_wp2
    go_ret2
    exact ⟨bm, rfl, hNm.later (below_drewN (Below.refl _ _) _), below_drewN (below_via (below1 w _) hb1) _⟩
  · have hW : withName L s = L := by unfold withName; simp [hh]
    rw [hW]
    go_enter Try.func43, Try.ntmps43
    go_wp2
    go_ret2
    exact ⟨b, rfl, hN, Below.refl _ _⟩
end Go.Proofs.Qxb6600067a
