/-
  (*names).withAll: the walk.
-/
import Derived.Test.Qxb6600067aRetagA
import Derived.Deep.LoopGhost
import Derived.Lib.SmallJoins
namespace Go.Proofs.Qxb6600067a
open Go.RowKit

/-! ### the plain functions -/
/-- Of L those that N does not hold. -/
def moreOf (N L : List ByteArray) : List ByteArray := L.filter fun s => !(hasIdx N s)

theorem moreOf_succ (N L : List ByteArray) {k : Nat} (hk : k < L.length) : moreOf N (L.take (k + 1)) = moreOf N (L.take k) ++ (if hasIdx N (nth L k) = true then [] else [nth L k]) := by
  rw [List.take_succ_eq_append_getElem hk, ← nth_eq hk]
  unfold moreOf
  rw [List.filter_append]
  cases h : hasIdx N (nth L k) <;> simp [h]

theorem moreOf_le (N L : List ByteArray) : (moreOf N L).length ≤ L.length := List.length_filter_le _ _

def joined (N L : List ByteArray) : List ByteArray := N ++ moreOf N L

def sameTo (M L : List ByteArray) (k : Nat) : Bool := (List.range k).all fun i => atIdx M (nth L i) == (i : Int)

theorem sameTo_succ (M L : List ByteArray) (k : Nat) : sameTo M L (k + 1) = (sameTo M L k && (atIdx M (nth L k) == (k : Int))) := by
  simp [sameTo, List.range_succ]

def trOf (M L : List ByteArray) (k : Nat) : List Value := (L.take k).map fun s => .int .u32 (atIdx M s)

theorem trOf_succ (M L : List ByteArray) {k : Nat} (hk : k < L.length) : trOf M L (k + 1) = trOf M L k ++ [.int .u32 (atIdx M (nth L k))] := by
  unfold trOf
  rw [List.take_succ_eq_append_getElem hk, ← nth_eq hk, List.map_append]
  rfl

/-! ### memory -/
theorem strs_one (w : World) (s : ByteArray) (hs : s.size ≤ maxLen) : Strs (w.alloc (.cells #[.string s] 9)) (some ⟨w.heap.size, 0, none⟩) 1 1 [s] := by
  refine ⟨rfl, by unfold maxLen; omega, by simpa using hs, fun i hi => ⟨_, rfl, ?_⟩, fun h => by cases h⟩
  have hi0 : i = 0 := by omega
  subst hi0
  simp [Addr.add, nth]

theorem neq22 (w : World) (a : Option Addr) (n c : Nat) : (binOp .neq 22 (.slice a n c) (.slice none 0 0)).run Try.prog w = .ok (.bool (!a.isNone)) w := run_neq_slice_nil_any w 22 9 a n c 0 0 Try.underlying22

theorem info33 : (Try.prog.info? 33).map (fun i => (i.zero, i.size, i.bytes)) = some (some (.int .u32 0), 1, 4) := by kernel_rfl
theorem size33 (W : World) : (sizeOf 33).run Try.prog W = .ok 1 W := by kernel_rfl

/-- What 'withAll' hands back beside the table. -/
def Trans (w : World) (v : Value) (M L : List ByteArray) : Prop :=
  if sameTo M L L.length = true then v = .slice none 0 0 else ∃ a c, v = .slice a L.length c ∧ Cells1 w a L.length (fun i => .int .u32 (atIdx M (nth L i)))

set_option maxHeartbeats 1000000 in
theorem withAll_any (bn bo : Nat) (N L : List ByteArray) (w : World) (hN : Names w bn N) (hO : Names w bo L) (hne : bn ≠ bo) (l : N.length + L.length ≤ 1048576) :
    Calls Try.prog 38 #[.pointer (some ⟨bn, 0, none⟩), .pointer (some ⟨bo, 0, none⟩)] w fun e w' => ∃ bm v, e = .returned (.tuple #[.pointer (some ⟨bm, 0, none⟩), v]) ∧ Names w' bm (joined N L) ∧ Trans w' v (joined N L) L ∧ Below w.heap.size w w' := by
  have qp := ptr_other w hO hN (Ne.symm hne)
  have q22 := neq22
  obtain ⟨an, nn, cn, mn, hNa⟩ := hN
  obtain ⟨ao, no, co, mo, hOa⟩ := hO
  have x1 := hNa.c1
  have y0 := hOa.c0
  have hSo := hOa.strs
  have hlo := hSo.len
  have hsm := hOa.small
  go_enter Try.func38, Try.ntmps38
  go_wp2
  go_loopg [6, 24] no (fun gk mv i wr => ∃ k : Nat, gk = no - k ∧ k ≤ no ∧ i = .int .i64 k ∧ wr.ownsRow w.heap.size 9 1 mv (moreOf N (L.take k)).length ((moreOf N (L.take k)).map Value.string) ∧ (moreOf N (L.take k) = [] → mv = .slice none 0 0) ∧ Below w.heap.size w wr)
  case atStart => exact ⟨0, rfl, Nat.zero_le _, rfl, World.ownsRow_nil _ _ _ _, fun _ => rfl, Below.refl _ _⟩
  case round =>
    obtain ⟨k, rfl, hk, rfl, hown, hnil, hbl⟩ := hrel
    have HN := hide hnil
    clear hnil
    have hml := moreOf_le N (L.take k)
    rw [List.length_take] at hml
    by_cases hlt : k < no
    · have z1 := hSo.ix k hlt
      have z2 := (hSo.later hbl).at hlt
      have z3 := hSo.small hlt
      have x1r := cell_later hbl x1
      have hlk := look_idx (hNa.map.below hbl hNa.map.lt) z3
      have hsu := hide (moreOf_succ N L (k := k) (by omega))
      cases hh : hasIdx N (nth L k)
      · go_wp2_with (first
          | (at_builtin; refine wpList_append_strs _ rfl _ _ rfl w.heap.size _ _ _ rfl (hown.alloc _) _ _ _ _ rfl (strs_one _ _ z3) (by omega) ?b1 ?_)
          | go_in)
        case b1 => have := hbl.size; simp; omega
        intro v' w2 hown2 hg2 hiff
        go_wp2
        go_roundg (no - (k + 1))
        case measure => omega
        case rel =>
          have hs := hsu.out
          rw [hh] at hs
          simp only [Bool.false_eq_true, if_false] at hs
          refine ⟨k + 1, rfl, by omega, by go_num, ?_, ?_, ?_⟩
          · rw [hs]; simpa using hown2
          · rw [hs]; intro h; simp at h
          · exact (hbl.alloc hbl.size _).grown hg2 (by have := hbl.size; simp; omega) (fun j hj => (hown.lt j hj).1)
      · go_wp2
        go_roundg (no - (k + 1))
        case measure => omega
        case rel =>
          have hs := hsu.out
          rw [hh] at hs
          simp only [if_true, List.append_nil] at hs
          exact ⟨k + 1, rfl, by omega, by go_num, by rw [hs]; exact hown, by rw [hs]; exact HN.out, hbl⟩
    · have hkn : k = no := by omega
      subst hkn
      have htk : L.take k = L := List.take_of_length_le (by omega)
      have HT := hide htk
      clear htk
      have hN1 : Names wr bn N := Names.later ⟨an, nn, cn, mn, hNa⟩ hbl
      have hO1 := hOa.later hbl
      obtain ⟨i0, hi, hz0, hz1, hz2⟩ := info_parts info33
      by_cases hm : moreOf N (L.take k) = []
      case' pos =>
        have hmv := HN.out hm
        subst hmv
        have hJ : joined N L = N := by
          unfold joined
          rw [← HT.out, hm, List.append_nil]
        have hNm : Names wr bn (joined N L) := by rw [hJ]; exact hN1
        have HNm := hide hNm
        clear hNm hN1 hJ
        have hOw := hO1
        have hbw := hbl
        obtain ⟨wz, hwz⟩ : ∃ wz, wz = wr := ⟨_, rfl⟩
        subst hwz
      case' neg =>
        have hle : 0 < (moreOf N (L.take k)).length := List.length_pos_iff.2 hm
        obtain ⟨g, cap, hmv⟩ := Joins.ownsRow_form hown hle
        subst hmv
        obtain ⟨a', c', ea, hSm⟩ := Strs.of_owns hown (fun s hs => hSo.each s (List.mem_of_mem_take (List.mem_filter.1 hs).1))
        cases ea
        have hN1' := hN1
        obtain ⟨an1, nn1, cn1, mn1, hNa1⟩ := hN1'
        have hln := hNa1.strs.len
        go_wp2_with fail
        refine (adding_any bn an1 _ nn1 cn1 _ _ N _ _ hNa1.strs hSm (by omega) hNa1.c0).mono ?_
        rintro e wz ⟨bm, rfl, hNm, _, hb4⟩
        have hJ : N ++ moreOf N (L.take k) = joined N L := by
          unfold joined
          rw [HT.out]
        rw [hJ] at hNm
        have HNm := hide hNm
        clear hNm hN1 hJ
        have hOw := hO1.later hb4
        have hbw := below_via hbl hb4
      all_goals
        have yy := hOw.c0
        have HOw := hide hOw.strs
        have hzz := hbw.size
        go_wp2_with (first
          | (at_make; refine wpList_make_full _ rfl _ _ 29 rfl w.heap.size 33 i0 (.int .u32 0) 1 Try.underlying29 hi hz0 hz1 _ _ _ _ k rfl rfl rfl rfl ?b1 ?b2 hzz ?_)
          | go_in)
        case b1 => first | omega | (rw [hz2]; omega)
        case b2 => unfold maxLen; omega
        intro w3 hown3 hg3
        have hb3 : Below wz.heap.size wz w3 := (Below.refl _ _).grown hg3 (Nat.le_refl _) (by simp)
        have yy3 := cell_later hb3 yy
        clear hOw hO1
        go_wp2
        go_loopg [12, 60] k (fun gk sm i wq => ∃ (q : Nat) (xs : List Value), gk = k - q ∧ q ≤ k ∧ i = .int .i64 q ∧ wq.ownsRow w.heap.size 33 1 (.slice (some ⟨wz.heap.size, 0, none⟩) k k) k xs ∧ xs.take q = trOf (joined N L) L q ∧ sm = .bool (sameTo (joined N L) L q) ∧ Below wz.heap.size wz wq)
        case atStart => exact ⟨0, _, rfl, Nat.zero_le _, rfl, hown3, rfl, rfl, hb3⟩
        case round =>
          obtain ⟨q, xs, rfl, hq, rfl, hownq, htq, rfl, hbq⟩ := hrel
          have HTQ := hide htq
          clear htq
          by_cases hlq : q < k
          · have hSq := HOw.out.later hbq
            have z1 := hSq.ix q hlq
            have z2 := hSq.at hlq
            have z3 := hSq.small hlq
            have hNq := HNm.out.later hbq
            obtain ⟨am, nm, cm, mm, hNa2⟩ := hNq
            have x1q := hNa2.c1
            have hlk := look_idx' hNa2.map z3
            have h3 := hownq.frozenAt q
            have h4 := hownq.cellAt q (by omega)
            have hx : q < xs.length := by have := hownq.1; omega
            rw [List.getElem?_eq_getElem hx] at h4
            have HS := hide (hownq.stored q (.int .u32 (atIdx (joined N L) (nth L q))))
            have HSS := hide (sameTo_succ (joined N L) L q)
            have HTR := hide (trOf_succ (joined N L) L (k := q) (by omega))
            have hbd := atIdx_bd (joined N L) (nth L q)
            clear hSq hNa2
            cases hsm2 : sameTo (joined N L) L q
            · go_wp2
              go_roundg (k - (q + 1))
              case measure => omega
              case rel =>
                have hs := HS.out
                refine ⟨q + 1, _, rfl, by omega, by go_num, hs.1, ?_, ?_, hbq.grown hs.2 hbq.size (fun j hj => by cases hj; exact Nat.le_refl _)⟩
                · rw [take_set_snoc xs _ q _ HTQ.out hx, HTR.out]
                · rw [HSS.out, hsm2]; rfl
            · by_cases hqe : atIdx (joined N L) (nth L q) = q
              · have hqb : (atIdx (joined N L) (nth L q) == (q : Int)) = true := by simp [hqe]
                clear hqe
                go_wp2
                go_roundg (k - (q + 1))
                case measure => omega
                case rel =>
                  have hs := HS.out
                  refine ⟨q + 1, _, rfl, by omega, by go_num, hs.1, ?_, ?_, hbq.grown hs.2 hbq.size (fun j hj => by cases hj; exact Nat.le_refl _)⟩
                  · rw [take_set_snoc xs _ q _ HTQ.out hx, HTR.out]
                  · rw [HSS.out, hsm2, hqb]; rfl
              · have hqb : (atIdx (joined N L) (nth L q) == (q : Int)) = false := by simp [hqe]
                clear hqe
                go_wp2
                go_roundg (k - (q + 1))
                case measure => omega
                case rel =>
                  have hs := HS.out
                  refine ⟨q + 1, _, rfl, by omega, by go_num, hs.1, ?_, ?_, hbq.grown hs.2 hbq.size (fun j hj => by cases hj; exact Nat.le_refl _)⟩
                  · rw [take_set_snoc xs _ q _ HTQ.out hx, HTR.out]
                  · rw [HSS.out, hsm2, hqb]; rfl
          · have hqk : q = k := by omega
            subst hqk
            have hxs : xs = trOf (joined N L) L q := by
              have e1 : xs.take q = xs := List.take_of_length_le (by have := hownq.1; omega)
              rw [← e1]
              exact HTQ.out
            have hall : sameTo (joined N L) L L.length = sameTo (joined N L) L q := by rw [hlo]
            have HALL := hide hall
            clear hall
            have hNq := HNm.out.later hbq
            have hbb := below_via hbw hbq
            cases hsm2 : sameTo (joined N L) L q
            · go_wp2
              go_ret2
              refine ⟨_, _, rfl, hNq, ?_, hbb⟩
              unfold Trans
              rw [HALL.out, hsm2]
              simp only [Bool.false_eq_true, if_false]
              rw [hxs] at hownq
              obtain ⟨a', c', ea, hc, _, _⟩ := Cells1.of_owns hownq (f := fun i => .int .u32 (atIdx (joined N L) (nth L i))) (fun i hi => by
                unfold trOf
                rw [HT.out, List.getElem?_map, nth_get (by omega)]; rfl)
              rw [hlo]
              exact ⟨a', c', ea, hc⟩
            · go_wp2
              go_ret2
              refine ⟨_, _, rfl, hNq, ?_, hbb⟩
              unfold Trans
              rw [HALL.out, hsm2]
              rfl
end Go.Proofs.Qxb6600067a
