/-
  What the reading of an argument gives the walk: slices of strings, slices of floats.
-/
import Derived.Test.Qxb6600641aRows
import Derived.Test.Qxb6600641aBase
import Derived.ProofKit
import Derived.OpenShut
import Derived.ShutString
import Derived.ChangeOld
import Derived.SliceStrings
import Derived.Laws.Cover2
namespace Go.Proofs.Qxb6600641a
open Go.ChangeShapes Go.WideShapes Go.ChangeAt Go.RowKit

theorem own : ownKnob Try.prog.godebug = none := by kernel_rfl
theorem laidOut : laidOutB Try.prog = true := by kernel_rfl

theorem open_strs {H : Type} {enc : TypeId × Value → H} {W : World} {a : Option Addr} {len cap : Nat} {d : DataW H} {p : List MemPlace}
    (h : DataW.Trod enc Try.prog W 0 (fun _ => true) true 22 (.slice a len cap) d p) : ∃ ss, Strs W a len cap ss := by
  obtain ⟨fuel, hf⟩ := h
  rcases open_strings Try.underlying22 Try.underlying9 (by kernel_rfl) hf with ⟨hcs, _⟩ | ⟨x, l, c, zs, hcs, _, hl, hm, hz, _, hcell, hwz⟩
  · simp [Value.cells] at hcs
    obtain ⟨rfl, rfl, rfl⟩ := hcs
    exact ⟨[], rfl, Nat.zero_le _, by simp, (fun i hi => by omega), fun _ => rfl⟩
  · simp [Value.cells] at hcs
    obtain ⟨rfl, rfl, rfl⟩ := hcs
    have hz' : zs.length = cap := by simpa using hz
    refine ⟨zs.take len, by simp; omega, by omega, fun s hs => hwz s (List.mem_of_mem_take hs), fun i hi => ⟨x, rfl, ?_⟩, fun h => by cases h⟩
    have := hcell i (by omega)
    rw [this]
    simp [nth, List.getD, hi]

theorem trod_f64 {H : Type} {enc : TypeId × Value → H} {W : World} {base : Nat} {sp : Nat → Bool} {held : Bool} {n : Nat} {cs : List Value} {x : DataW H × List MemPlace}
    (h : DataW.trod enc Try.prog W base sp held n 24 cs = some x) : ∃ b, cs = [.float .f64 b] := by
  cases n with
  | zero => simp [DataW.trod] at h
  | succ n =>
    unfold DataW.trod at h
    rw [Try.underlying24] at h
    split at h <;> first | cases h | skip
    all_goals simp_all

theorem open_f64s {H : Type} {enc : TypeId × Value → H} {W : World} {a : Option Addr} {len cap : Nat} {d : DataW H} {p : List MemPlace}
    (h : DataW.Trod enc Try.prog W 0 (fun _ => true) true 23 (.slice a len cap) d p) : ∃ vf, Flts W a len vf := by
  obtain ⟨fuel, hf⟩ := h
  have hc : Try.prog.cellsOf 24 = 1 := by kernel_rfl
  rcases DataW.trod_slice Try.underlying23 hf with ⟨hcs, _⟩ | ⟨x, l, c, elems, rest, n, _, hcs, _, _, hl, hm, hlen, hel, _, _⟩
  · simp [Value.cells] at hcs
    obtain ⟨rfl, rfl, rfl⟩ := hcs
    exact ⟨fun _ => 0, Nat.zero_le _, fun i hi => by omega⟩
  · simp [Value.cells] at hcs
    obtain ⟨rfl, rfl, rfl⟩ := hcs
    have each : ∀ i, ∃ b, i < len → W.cell? (x.add i) = some (.float .f64 b) := by
      intro i
      by_cases hi : i < len
      · have h1 := hel i hi
        rw [List.getElem?_eq_getElem (by omega), hc, Nat.mul_one, Option.bind_eq_some_iff] at h1
        obtain ⟨cs', hcs', hy⟩ := h1
        obtain ⟨b, rfl⟩ := trod_f64 hy
        exact ⟨b, fun _ => cell_of_cells?_one hcs'⟩
      · exact ⟨0, fun h => absurd h hi⟩
    exact ⟨fun i => Classical.choose (each i), by omega, fun i hi => ⟨x, rfl, Classical.choose_spec (each i) hi⟩⟩

theorem open_f64 {W : World} {base : Nat} {v : Value} (h : Value.okWide Try.prog W .any base 24 v) : ∃ b, v = .float .f64 b := okWide_float Try.underlying24 h

end Go.Proofs.Qxb6600641a
