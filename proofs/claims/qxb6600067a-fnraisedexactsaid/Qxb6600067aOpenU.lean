/-
  What the reading of an argument gives the walk: slices of unsigned words.
-/
import Derived.Test.Qxb6600067aOpen
import Derived.Test.Qxb6600067aRaisedLaw
import Derived.ChangeSlices
namespace Go.Proofs.Qxb6600067a
open Go.ChangeShapes Go.WideShapes Go.ChangeAt Go.RowKit

theorem open_u64s {H : Type} {enc : TypeId × Value → H} {W : World} {a : Option Addr} {len cap : Nat} {d : DataW H} {p : List MemPlace}
    (h : DataW.Trod enc Try.prog W 0 (fun _ => true) true 43 (.slice a len cap) d p) : ∃ ss, U64s W a len cap ss := by
  obtain ⟨fuel, hf⟩ := h
  rcases open_ints Try.underlying43 Try.underlying36 (by kernel_rfl) hf with ⟨hcs, _⟩ | ⟨x, l, c, zs, hcs, _, hl, hm, hz, _, hcell, hwz⟩
  · simp [Value.cells] at hcs
    obtain ⟨rfl, rfl, rfl⟩ := hcs
    exact ⟨[], rfl, Nat.zero_le _, by simp, (fun i hi => by omega), fun _ => rfl⟩
  · simp [Value.cells] at hcs
    obtain ⟨rfl, rfl, rfl⟩ := hcs
    have hz' : zs.length = cap := by simpa using hz
    refine ⟨(zs.take len).map Int.toNat, by simp; omega, by omega, ?_, fun i hi => ⟨x, rfl, ?_⟩, fun h => by cases h⟩
    · intro s hs
      obtain ⟨y, hy, rfl⟩ := List.mem_map.1 hs
      obtain ⟨n, rfl, hn⟩ := wf_u64 (hwz y (List.mem_of_mem_take hy))
      simpa using hn
    · have hi' : i < zs.length := by omega
      have := hcell i hi'
      rw [this]
      have e1 : zs.getD i 0 = zs[i] := by simp [List.getD, List.getElem?_eq_getElem hi']
      obtain ⟨n, hn, _⟩ := wf_u64 (hwz _ (List.getElem_mem hi'))
      rw [e1, hn]
      simp [nn, uv, List.getD, hi, List.getElem?_eq_getElem hi', hn]

end Go.Proofs.Qxb6600067a
