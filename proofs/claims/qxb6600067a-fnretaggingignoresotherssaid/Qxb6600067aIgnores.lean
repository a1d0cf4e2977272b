/-
  FnRetaggingIgnoresOthers: the walk.
-/
import Derived.Test.Qxb6600067aRetagA
import Derived.Test.Qxb6600067aBytes
import Derived.Deep.LoopGhost
namespace Go.Proofs.Qxb6600067a
open Go.RowKit

set_option maxHeartbeats 400000 in
theorem zzretag_none (b bh nh : Nat) (L : List ByteArray) (g : ByteArray → Option ByteArray) (w : World) (hN : Names w b L) (hM : MapAt Try.prog 9 w bh nh (fun s => (g s).map Value.string))
    (hg : ∀ s h, g s = some h → s ∈ L → h = s) :
    Calls Try.prog 23 #[.pointer (some ⟨b, 0, none⟩), .map (some bh)] w fun e w' => e = .returned (.tuple #[.pointer (some ⟨b, 0, none⟩), .slice none 0 0]) ∧ Below w.heap.size w w' := by
  go_enter Try.func23, Try.ntmps23
  go_wp2_with fail
  refine (retag_none b bh nh L g _ hN hM hg).mono ?_
  rintro e w1 ⟨rfl, hb⟩
  go_wp2
  go_ret2
  exact ⟨rfl, hb⟩

set_option maxHeartbeats 400000 in
theorem ignores_walk (a0 : Option Addr) (n0 c0 : Nat) (s0 : List ByteArray) (a1 : Option Addr) (n1 c1 : Nat) (s1 : List ByteArray) (a2 : Option Addr) (n2 c2 : Nat) (s2 : List ByteArray) (w : World) (h0 : Strs w a0 n0 c0 s0) (h1 : Strs w a1 n1 c1 s1) (h2 : Strs w a2 n2 c2 s2) :
    Calls Try.prog 7 #[.slice a0 n0 c0, .slice a1 n1 c1, .slice a2 n2 c2] w fun e w' => e = .returned (.bool true) ∧ Below w.heap.size w w' := by
  have hmm := run_makeMap_hint (P := Try.prog) Try.underlying39
  have qp := ptr_same
  have qn := nil29
  go_enter Try.func7, Try.ntmps7
  go_wp2_with fail
  refine (zz24 a0 n0 c0 s0 a1 n1 c1 s1 a2 n2 c2 s2 w h0 h1 h2).mono ?_
  rintro e w1 ⟨⟨b, rfl⟩, rfl⟩
  cases b
  · go_wp2
    go_ret
    exact ⟨rfl, Below.refl _ _⟩
  by_cases l0 : 65536 < n0
  · have d0 : decide ((65536 : Int) < (n0 : Int)) = true := decide_eq_true (by omega)
    go_wp2
    go_ret
    exact ⟨rfl, Below.refl _ _⟩
  have d0 : decide ((65536 : Int) < (n0 : Int)) = false := decide_eq_false (by omega)
  by_cases l1 : 65536 < n1
  · have d1 : decide ((65536 : Int) < (n1 : Int)) = true := decide_eq_true (by omega)
    go_wp2
    go_ret
    exact ⟨rfl, Below.refl _ _⟩
  have d1 : decide ((65536 : Int) < (n1 : Int)) = false := decide_eq_false (by omega)
  by_cases l2 : 65536 < n2
  · go_wp2
    go_ret
    exact ⟨rfl, Below.refl _ _⟩
  have d2 : decide ((65536 : Int) < (n2 : Int)) = false := decide_eq_false (by omega)
  go_wp2_with fail
  refine (addB_any a0 n0 c0 s0 _ _ h0).mono ?_
  rintro e w1 ⟨⟨r0, rfl⟩, rfl⟩
  go_wp2_with fail
  refine (addB_any a1 n1 c1 s1 _ _ h1).mono ?_
  rintro e w1 ⟨⟨r1, rfl⟩, rfl⟩
  go_wp2_with fail
  refine (addB_any a2 n2 c2 s2 _ _ h2).mono ?_
  rintro e w1 ⟨⟨r2, rfl⟩, rfl⟩
  by_cases hr : 1048576 < r2
  · go_wp2
    go_ret
    exact ⟨rfl, Below.refl _ _⟩
  have dr : decide ((1048576 : Int) < r2) = false := decide_eq_false hr
  go_wp2_with fail
  refine (clone_any a0 n0 c0 s0 _ h0 (by omega)).mono ?_
  rintro e w1 ⟨b0, e0, rfl, k0, g1⟩
  go_wp2_with fail
  refine (clone_any a1 n1 c1 s1 _ (h1.later g1) (by omega)).mono ?_
  rintro e w2 ⟨b1, e1, rfl, k1, g2⟩
  have k0' := k0.later g2
  have g12 := below_via g1 g2
  go_wp2_with fail
  refine (clone_any a2 n2 c2 s2 _ (h2.later g12) (by omega)).mono ?_
  rintro e w3 ⟨b2, e2, rfl, k2, g3⟩
  have k0'' := k0'.later g3
  have k1' := k1.later g3
  have g13 := below_via g12 g3
  clear k0 k0' k1 g1 g2 g12 g3
  go_wp2_with fail
  refine (namesOf_any b0 n0 e0 s0 _ k0'' (by omega)).mono ?_
  rintro e w4 ⟨bn, rfl, hN, _, g4⟩
  have k1 := k1'.later g4
  have k2' := k2.later g4
  have g14 := below_via g13 g4
  clear k0'' k1' k2 g13 g4
  rcases (show n2 < n1 ∨ n1 ≤ n2 by omega) with hn | hn
  all_goals
    first
      | have dk : decide (n2 < n1) = true := decide_eq_true hn
      | have dk : decide (n2 < n1) = false := decide_eq_false (by omega)
    go_wp2
    go_loopg [10] n1 (fun gk i wr => ∃ (k : Nat) (g : ByteArray → Option ByteArray), gk = n1 - k ∧ k ≤ n1 ∧ k ≤ n2 ∧ i = .int .i64 k ∧ MapAt Try.prog 9 wr w4.heap.size k (fun s => (g s).map Value.string) ∧ (∀ s h, g s = some h → s ∈ s0 → h = s) ∧ Below w4.heap.size w4 wr)
    case atStart => exact ⟨0, fun _ => none, rfl, Nat.zero_le _, Nat.zero_le _, rfl, MapAt.made w4, (fun s h e => by cases e), below1 w4 _⟩
    case round =>
      obtain ⟨k, g, rfl, hk1, hk2, rfl, hM, hg, hbl⟩ := hrel
      have HG := hide hg
      clear hg
      by_cases hlt : k < n1 ∧ k < n2
      · obtain ⟨hlt1, hlt2⟩ := hlt
        have q1 := (k1.later hbl).ix k hlt1
        have q2 := (k1.later hbl).at hlt1
        have q3 := (k1.later hbl).small hlt1
        have q4 := (k2'.later hbl).ix k hlt2
        have q5 := (k2'.later hbl).at hlt2
        have hNr := hN.later hbl
        go_wp2_with fail
        refine (index_any bn s0 (nth s1 k) _ hNr q3).mono ?_
        rintro e w5 ⟨rfl, rfl⟩
        by_cases hm : nth s1 k ∈ s0
        · have hh := hasIdx_iff.2 hm
          go_wp2_with (first
            | (at_mapUpdate; refine wpList_store _ rfl _ _ _ 39 rfl 9 9 Try.underlying9 Try.underlying39 w4.heap.size k _ rfl hM ?b1 _ _ rfl rfl q3 ?_)
            | go_in)
          case b1 => unfold maxLen; omega
          intro w6 hM2 hg2 hs2
          go_wp2
          go_roundg (n1 - (k + 1))
          case rel => exact ⟨k + 1, fun x => if x = nth s1 k then some (nth s1 k) else g x, rfl, by omega, by omega, by go_num, hM2.congr (fun x _ => by by_cases e : x = nth s1 k <;> simp [e]), (fun x h hx hxm => by by_cases e : x = nth s1 k <;> simp [e] at hx <;> first | (subst hx; exact e.symm) | (exact HG.out x h hx hxm) | (subst e; exact absurd hxm hm)), hbl.grown hg2 hbl.size (fun j hj => by cases hj; exact Nat.le_refl _)⟩
          case measure => omega
        · have hh := hasIdx_false.2 hm
          go_wp2_with (first
            | (at_mapUpdate; refine wpList_store _ rfl _ _ _ 39 rfl 9 9 Try.underlying9 Try.underlying39 w4.heap.size k _ rfl hM ?b1 _ _ rfl rfl q3 ?_)
            | go_in)
          case b1 => unfold maxLen; omega
          intro w6 hM2 hg2 hs2
          go_wp2
          go_roundg (n1 - (k + 1))
          case rel => exact ⟨k + 1, fun x => if x = nth s1 k then some (nth s2 k) else g x, rfl, by omega, by omega, by go_num, hM2.congr (fun x _ => by by_cases e : x = nth s1 k <;> simp [e]), (fun x h hx hxm => by by_cases e : x = nth s1 k <;> simp [e] at hx <;> first | (subst hx; exact e.symm) | (exact HG.out x h hx hxm) | (subst e; exact absurd hxm hm)), hbl.grown hg2 hbl.size (fun j hj => by cases hj; exact Nat.le_refl _)⟩
          case measure => omega
      · go_wp2_with fail
        refine (zzretag_none bn w4.heap.size k s0 g _ (hN.later hbl) hM HG.out).mono ?_
        rintro e w5 ⟨rfl, hb5⟩
        go_wp2
        go_ret
        exact ⟨rfl, below_via g14 (below_via hbl hb5)⟩
end Go.Proofs.Qxb6600067a
