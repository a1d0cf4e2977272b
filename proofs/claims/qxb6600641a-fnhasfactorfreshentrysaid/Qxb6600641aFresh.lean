/-
  FnHasFactorFreshEntry: the walk.
-/
import Derived.Test.Qxb6600641aFns
namespace Go.Proofs.Qxb6600641a
open Go.RowKit

def putAt (g : ByteArray → Option Nat) (k : ByteArray) (v : Nat) (s : ByteArray) : Option Nat := if s = k then some v else g s

theorem holds_put {g : ByteArray → Option Nat} {k : ByteArray} {v f : Nat} (hk : k.size ≤ maxLen) (h : g k = none) : Holds (putAt g k v) f ↔ Holds g f ∨ feq v f = true := by
  constructor
  · rintro ⟨s, x, hs, hx, hf⟩
    unfold putAt at hx
    by_cases e : s = k
    · simp [e] at hx
      subst hx
      exact .inr hf
    · simp [e] at hx
      exact .inl ⟨s, x, hs, hx, hf⟩
  · rintro (⟨s, x, hs, hx, hf⟩ | hf)
    · refine ⟨s, x, hs, ?_, hf⟩
      unfold putAt
      have e : s ≠ k := fun e => by rw [e, h] at hx; cases hx
      simp [e, hx]
    · exact ⟨k, v, hk, by simp [putAt], hf⟩

theorem zero24 (w : World) : (zeroValue 24).run Try.prog w = .ok (.float .f64 0) w := by kernel_rfl

set_option maxHeartbeats 1000000 in
set_option maxRecDepth 100000 in
theorem fresh_walk (a0 : Option Addr) (n0 c0 : Nat) (s0 : List ByteArray) (a1 : Option Addr) (n1 c1 : Nat) (vf : Nat → Nat) (k : ByteArray) (v q : Nat) (w : World) (h0 : Strs w a0 n0 c0 s0) (h1 : Flts w a1 n1 vf) (lk : k.size ≤ maxLen) :
    Calls Try.prog 5 #[.slice a0 n0 c0, .slice a1 n1 c1, .string k, .float .f64 v, .float .f64 q] w fun e w' => e = .returned (.bool true) ∧ Below w.heap.size w w' := by
  go_enter Try.func5, Try.ntmps5
  go_wp2_with fail
  refine (zz15 a0 n0 c0 s0 a1 n1 c1 k v q _ h0 h1.max lk).mono ?_
  rintro e w1 ⟨⟨b, rfl⟩, rfl⟩
  cases b
  · go_wp2
    go_ret
    exact ⟨rfl, Below.refl _ _⟩
  by_cases l4 : 4096 < k.size
  · go_wp2
    go_ret
    exact ⟨rfl, Below.refl _ _⟩
  go_wp2_with fail
  refine (tooMany a0 n0 c0 s0 a1 n1 c1 _ _ h0 h1.max).mono ?_
  rintro e w1 ⟨⟨b, rfl, hb⟩, rfl⟩
  cases b
  case true =>
    go_wp2
    go_ret
    exact ⟨rfl, Below.refl _ _⟩
  obtain ⟨l0, l1⟩ := hb rfl
  clear hb
  go_wp2_with fail
  refine (minLen_any n0 n1 _).mono ?_
  rintro e w1 ⟨rfl, rfl⟩
  by_cases l5 : 4096 < min n0 n1
  · go_wp2
    go_ret
    exact ⟨rfl, Below.refl _ _⟩
  go_wp2_with fail
  refine (clone_any a0 n0 c0 s0 _ h0 (by omega)).mono ?_
  rintro e w1 ⟨b0, f0, rfl, k0, g1⟩
  go_wp2_with fail
  refine (cloneF_any a1 n1 c1 vf _ (h1.later g1) (by omega)).mono ?_
  rintro e w2 ⟨b1, f1, rfl, k1, g2⟩
  have k0' := k0.later g2
  have g12 := below_via g1 g2
  clear k0 g1 g2
  go_wp2_with fail
  refine (build_any b0 n0 f0 s0 b1 n1 f1 vf _ k0' k1 (by omega)).mono ?_
  rintro e w3 ⟨bm, nm, rfl, hM, hnm, hbm, g3⟩
  have g13 := below_via g12 g3
  have hsz := g12.size
  clear k0' k1 g3 g12
  generalize built s0 vf (min n0 n1) = g at *
  have hlk := hM.look_ok Try.underlying9 Try.underlying30 (zero24 w3) lk
  cases hgk : g k with
  | some x =>
    rw [hgk] at hlk
    simp only [Option.map_some, Option.getD_some, Option.isSome_some] at hlk
    clear hgk
    go_wp2
    go_ret
    exact ⟨rfl, g13⟩
  | none =>
    rw [hgk] at hlk
    simp only [Option.map_none, Option.getD_none, Option.isSome_none] at hlk
    have HG := hide hgk
    clear hgk
    go_wp2_with fail
    refine (zzhas_any bm nm q g _ hM).mono ?_
    rintro e w4 ⟨⟨x1, rfl, hx1⟩, g4⟩
    have HX1 := hide hx1
    clear hx1
    have hM4 := hM.below g4 hM.lt
    have g14 := below_via g13 g4
    clear hM hlk g13 g4
    go_wp2_with (first
      | (at_mapUpdate; refine wpList_store _ rfl _ _ _ 30 rfl 9 24 Try.underlying9 Try.underlying30 bm nm _ rfl hM4 ?b1 _ _ rfl rfl lk ?_)
      | go_in)
    case b1 => unfold maxLen; omega
    intro w5 hM5 hg5 hs5
    have hM5' : MapAt Try.prog 9 w5 bm (nm + 1) (fun s => (putAt g k v s).map (Value.float .f64)) := hM5.congr (fun s _ => by unfold putAt; by_cases e : s = k <;> simp [e])
    have hz := g14.size
    have g15 := g14.grown hg5 hz (fun j hj => by cases hj; omega)
    clear hM5 hM4 hg5 hs5 g14
    go_wp2_with fail
    refine (zzhas_any bm (nm + 1) q (putAt g k v) _ hM5').mono ?_
    rintro e w6 ⟨⟨x2, rfl, hx2⟩, g6⟩
    have g16 := below_via g15 g6
    have hfin : x2 = (x1 || feq v q) := by
      rw [Bool.eq_iff_iff, hx2, holds_put lk HG.out, ← HX1.out]
      simp
    clear hx2 HX1 HG hM5' g15 g6
    subst hfin
    cases x1
    · cases hq : feq v q
      · have hq' : (FloatKind.f64.format.order v q == some .eq) = false := hq
        clear hq
        go_wp2
        go_ret
        exact ⟨rfl, g16⟩
      · have hq' : (FloatKind.f64.format.order v q == some .eq) = true := hq
        clear hq
        go_wp2
        go_ret
        exact ⟨rfl, g16⟩
    · go_wp2
      go_ret
      exact ⟨rfl, g16⟩
end Go.Proofs.Qxb6600641a
