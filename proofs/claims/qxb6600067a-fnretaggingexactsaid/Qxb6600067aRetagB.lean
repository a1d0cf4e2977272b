/-
  (*names).retagging: the walk, the table without repeated names.
-/
import Derived.Test.Qxb6600067aRetagP
import Derived.Deep.LoopGhost
import Derived.Test.Qxb6600067aBytes
import Derived.Lib.SmallJoins
namespace Go.Proofs.Qxb6600067a
open Go.RowKit

theorem RangeAt.block {P : Program} {k : TypeId} {w w' : World} {b r n : Nat} {f : ByteArray → Option Value} {left : ByteArray → Prop} (h : RangeAt P k w b r n f left) (hb : w'.heap[b]? = w.heap[b]?) (hr : w'.heap[r]? = w.heap[r]?) : RangeAt P k w' b r n f left := by
  obtain ⟨D, lf, cnt, ⟨es, clock, since, seen, c0, h1, h2, h3, h4, h5, h6⟩, hv⟩ := h
  exact ⟨D, lf, cnt, ⟨es, clock, since, seen, c0, hb.trans h1, h2, h3, h4, hr.trans h5, h6⟩, hv⟩

theorem rangeLeft_le {P : Program} {k : TypeId} {w : World} {b r n : Nat} {f : ByteArray → Option Value} {left : ByteArray → Prop} (h : RangeAt P k w b r n f left) : w.rangeLeft b r ≤ n := by
  obtain ⟨D, lf, cnt, h, hv⟩ := h
  rw [h.left_eq]
  obtain ⟨es, clock, since, seen, c0, h1, h2, h3, h4, h5, h6, h7, _⟩ := h
  rw [← h7]
  have : (leftOf es seen).size ≤ es.size := Array.size_filter_le
  omega

/-- An object that is no part of a table of names. -/
def Other (o : Obj) : Prop := (∀ cs, o ≠ .cells cs 63 (0, 0)) ∧ (∀ cs, o ≠ .cells cs 9 (0, 0)) ∧ ∀ es c, o ≠ .map es c

theorem other_row {cs : Array Value} {e : TypeId} (h9 : e ≠ 9) (h63 : e ≠ 63) : Other (.cells cs e (0, 0)) :=
  ⟨(fun cs' h => by cases h; exact h63 rfl), (fun cs' h => by cases h; exact h9 rfl), (fun es c h => by cases h)⟩

theorem other_iter (b : Option Nat) (s : Nat) (seen : Array Nat) (c : Nat) : Other (.mapIter b s seen c) :=
  ⟨(fun cs' h => by cases h), (fun cs' h => by cases h), (fun es c h => by cases h)⟩

/-- A table of names stands while another object is written. -/
theorem Names.kept {w w' : World} {b : Nat} {L : List ByteArray} (h : Names w b L) {row : Option Nat} (hg : w.grownBy w' row) (hr : ∀ g o, row = some g → w.heap[g]? = some o → Other o) : Names w' b L := by
  obtain ⟨a, n, c, m, h⟩ := h
  have nb : some b ≠ row := fun e1 => (hr b _ e1.symm h.blk).1 _ rfl
  have nm : some m ≠ row := fun e1 => by
    obtain ⟨D, ⟨es, clock, hb, _⟩, _⟩ := h.map
    exact (hr m _ e1.symm hb).2.2 _ _ rfl
  have na : ∀ x, a = some x → some x.block ≠ row := fun x hx e1 => by
    obtain ⟨cs', hc'⟩ := h.row x hx
    exact (hr x.block _ e1.symm hc').2.1 _ rfl
  have kb := hg.block b (Array.getElem?_eq_some_iff.1 h.blk).1 nb
  refine ⟨a, n, c, m, kb.trans h.blk, hg.cell h.c0 nb, hg.cell h.c1 nb, ⟨h.strs.len, h.strs.max, h.strs.each, ?_, h.strs.nil⟩, h.map.kept hg nm, h.small, ?_⟩
  · intro i hi
    obtain ⟨x, hx, hc⟩ := h.strs.cells i hi
    refine ⟨x, hx, hg.cell hc ?_⟩
    have : (x.add i).block = x.block := by unfold Addr.add; split <;> rfl
    rw [this]
    exact na x hx
  · refine h.row.block fun x hx => ?_
    obtain ⟨cs', hc'⟩ := h.row x hx
    exact hg.block _ (Array.getElem?_eq_some_iff.1 hc').1 (na x hx)

theorem RangeAt.iter {P : Program} {k : TypeId} {w : World} {b r n : Nat} {f : ByteArray → Option Value} {left : ByteArray → Prop} (h : RangeAt P k w b r n f left) : ∀ o, w.heap[r]? = some o → Other o := by
  obtain ⟨D, lf, cnt, ⟨es, clock, since, seen, c0, h1, h2, h3, h4, h5, h6⟩, hv⟩ := h
  intro o ho
  rw [h5] at ho
  cases ho
  exact other_iter _ _ _ _

theorem own_other {w : World} {base : Nat} {e : TypeId} {size : Nat} {v : Value} {n : Nat} {xs : List Value} (h : w.ownsRow base e size v n xs) (h9 : e ≠ 9) (h63 : e ≠ 63) : ∀ g o, v.ownBlock = some g → w.heap[g]? = some o → Other o := by
  intro g o hg ho
  rcases h.2 with ⟨rfl, _⟩ | ⟨g', cap, cur, rfl, _, hh, _⟩
  · simp [Value.ownBlock] at hg
  · simp [Value.ownBlock] at hg
    subst hg
    rw [hh] at ho
    cases ho
    exact other_row h9 h63

theorem below_grown {w w' : World} (h : Below w.heap.size w w') (row : Option Nat) : w.grownBy w' row := ⟨h.os, h.tape, h.output, h.size, fun k hk _ => h.block k hk⟩

theorem info73 : (Try.prog.info? 73).map (fun i => (i.zero, i.size, i.bytes)) = some (some (.agg #[.int .u32 0, .int .u32 0]), 2, 8) := by kernel_rfl

def flat (mvs : List (Nat × Nat)) : List Value := mvs.flatMap fun p => [.int .u32 (p.1 : Int), .int .u32 (p.2 : Int)]
theorem flat_snoc (mvs : List (Nat × Nat)) (i j : Nat) : flat (mvs ++ [(i, j)]) = flat mvs ++ [.int .u32 (i : Int), .int .u32 (j : Int)] := by simp [flat]

theorem flat_snoc' (mvs : List (Nat × Nat)) {x y : Int} (hx : 0 ≤ x) (hy : 0 ≤ y) : flat (mvs ++ [(x.toNat, y.toNat)]) = flat mvs ++ [.int .u32 x, .int .u32 y] := by
  rw [flat_snoc, Int.toNat_of_nonneg hx, Int.toNat_of_nonneg hy]

/-- The words f 0 .. f (n - 1). -/
def u32s (f : Nat → Nat) (n : Nat) : List Value := (List.range n).map fun i => .int .u32 ((f i : Nat) : Int)
theorem u32s_succ (f : Nat → Nat) (n : Nat) : u32s f (n + 1) = u32s f n ++ [.int .u32 ((f n : Nat) : Int)] := by simp [u32s, List.range_succ]
theorem u32s_len (f : Nat → Nat) (n : Nat) : (u32s f n).length = n := by simp [u32s]
theorem u32s_get (f : Nat → Nat) {n i : Nat} (h : i < n) : (u32s f n)[i]? = some (.int .u32 ((f i : Nat) : Int)) := by simp [u32s, h]
theorem u32s_set (f : Nat → Nat) (n i v : Nat) : (u32s f n).set i (.int .u32 ((v : Nat) : Int)) = u32s (fun j => if i = j then v else f j) n := by
  apply List.ext_getElem?
  intro j
  by_cases hj : j < n
  · rw [u32s_get _ hj, List.getElem?_set]
    by_cases e : i = j
    · simp [e, u32s_len, hj]
    · simp [e, u32s_get _ hj]
  · rw [List.getElem?_eq_none (by simp [u32s_len]; omega), List.getElem?_eq_none (by simp [u32s_len]; omega)]

theorem upd_take {mvs : List (Nat × Nat)} {q : Nat} (hq : q < mvs.length) (i : Nat) : upd (mvs.take (q + 1)) i = if mvs[q].1 = i then mvs[q].2 else upd (mvs.take q) i := by
  rw [List.take_succ_eq_append_getElem hq, upd_snoc]

theorem flat_get {mvs : List (Nat × Nat)} {q : Nat} (hq : q < mvs.length) : (flat mvs)[q * 2]? = some (.int .u32 (mvs[q].1 : Int)) ∧ (flat mvs)[q * 2 + 1]? = some (.int .u32 (mvs[q].2 : Int)) := by
  induction mvs generalizing q with
  | nil => simp at hq
  | cons p r ih =>
    cases q with
    | zero => simp [flat]
    | succ q =>
      have := ih (q := q) (by simpa using hq)
      have e1 : (q + 1) * 2 = q * 2 + 2 := by omega
      rw [e1]
      simpa [flat] using this

theorem two_new (w : World) (e : TypeId) (x y : Value) : ∀ j u, [x, y][j]? = some u → (w.alloc (.cells #[x, y] e)).cell? ((⟨w.heap.size, 0, none⟩ : Addr).add j) = some u := by
  intro j u hu
  match j, hu with
  | 0, hu => simp at hu; subst hu; simp [Addr.add]
  | 1, hu => simp at hu; subst hu; simp [Addr.add]

/-- What retagging hands back beside the table. -/
def RetOut (w : World) (v : Value) (L L' : List ByteArray) (g : ByteArray → Option ByteArray) : Prop :=
  (v = .slice none 0 0 ∧ L' = L ∧ ∀ i h, i < L.length → g (nth L i) = some h → h = nth L i) ∨
  ∃ a c tf, v = .slice (some a) L'.length c ∧ Cells1 w (some a) L'.length (fun i => .int .u32 (tf i : Nat)) ∧ Retagged L L' g tf ∧ ∃ i h, i < L.length ∧ g (nth L i) = some h ∧ h ≠ nth L i

set_option maxHeartbeats 1000000 in
set_option maxRecDepth 100000 in
theorem retag_any (b bh nh : Nat) (L : List ByteArray) (g : ByteArray → Option ByteArray) (w : World) (hN : Names w b L) (hM : MapAt Try.prog 9 w bh nh (fun s => (g s).map Value.string))
    (hw : Well L) (hLs : ∀ s ∈ L, s.size ≤ maxLen) (hgs : ∀ s h, g s = some h → h.size ≤ maxLen) (l : L.length + nh ≤ 524288) :
    Calls Try.prog 39 #[.pointer (some ⟨b, 0, none⟩), .map (some bh)] w fun e w' => ∃ b' L' v, e = .returned (.tuple #[.pointer (some ⟨b', 0, none⟩), v]) ∧ Names w' b' L' ∧ RetOut w' v L L' g ∧ Below w.heap.size w w' := by
  have qn : ∀ (w : World) (a : Option Addr) (n c : Nat), (binOp .eql 69 (.slice a n c) (.slice none 0 0)).run Try.prog w = .ok (.bool a.isNone) w := fun w a n c => Lib.run_eql_slice_nil w 69 73 a n c 0 0 Try.underlying69
  obtain ⟨i0, hi, hz0, hz1, hz2⟩ := info_parts info73
  have HLS := hide hLs
  have HGS := hide hgs
  have HW := hide hw
  clear hLs hgs hw
  have hblt := hM.lt
  go_enter Try.func39, Try.ntmps39
  go_wp2_with (first
    | (at_range; refine wpList_range _ rfl _ 39 rfl 9 9 Try.underlying9 Try.underlying39 bh nh _ rfl hM ?_; intro w0 hR0 hg0 hs0)
    | go_in)
  go_frame
  go_loopg [0, 6] (w0.rangeLeft bh w.heap.size) (fun gk p mv wr => ∃ b' L' mvs left, gk = wr.rangeLeft bh w.heap.size ∧ p = .pointer (some ⟨b', 0, none⟩) ∧ Names wr b' L' ∧ RangeAt Try.prog 9 wr bh w.heap.size nh (fun s => (g s).map Value.string) left ∧
      wr.ownsRow (w.heap.size + 1) 73 2 mv mvs.length (flat mvs) ∧ Hid (mvs = [] → mv = .slice none 0 0) ∧ Hid (Inv L g left L' mvs) ∧ mvs.length + wr.rangeLeft bh w.heap.size ≤ nh ∧ w.heap.size + 1 ≤ wr.heap.size ∧ Below w.heap.size w wr)
  case atStart =>
    have hb0 := (Below.refl w.heap.size w).grown hg0 (Nat.le_refl _) (by simp)
    exact ⟨b, L, [], _, rfl, rfl, hN.later hb0, hR0, World.ownsRow_nil _ _ _ _, (fun _ => rfl), Inv.start HW.out g HLS.out (fun s _ h => by simpa using h), by have := rangeLeft_le hR0; simpa using this, by omega, hb0⟩
  case round =>
    obtain ⟨b', L', mvs, left, rfl, rfl, hNr, hR, hown, HNil, HI, hcnt, hsz, hbl⟩ := hrel
    have hlen := HI.out.len
    go_wp2_with (first
      | (at_next; refine wpList_next_mk Value.string g _ rfl _ rfl 9 Try.underlying9 bh w.heap.size nh _ rfl hR ?_ ?_)
      | go_in)
    · intro hdone
      have HD := hide hdone
      clear hdone
      by_cases hmv : mvs = []
      · have hv := HNil.out hmv
        subst hv
        have HOUT : Hid (RetOut wr (.slice none 0 0) L L' g) := by
          refine hide (.inl ⟨rfl, HI.out.still hmv, ?_⟩)
          intro i h hi hgi
          by_cases e : h = nth L i
          · exact e
          · obtain ⟨j, hj⟩ := HI.out.done i h hi hgi e (HD.out _ (HLS.out _ (nth_mem hi)))
            rw [hmv] at hj
            cases hj
        clear hmv
        go_wp2
        go_ret2
        exact ⟨b', L', _, rfl, hNr, HOUT.out, hbl⟩
      · obtain ⟨wz, hwz⟩ : ∃ x, x = wr := ⟨_, rfl⟩
        subst hwz
        have hpos : 0 < mvs.length := List.length_pos_iff.2 hmv
        obtain ⟨gm, cap, hv⟩ := Joins.ownsRow_form hown hpos
        subst hv
        obtain ⟨j0, hj0, jz0, jz1, jz2⟩ := info_parts info33
        have hNr' := hNr
        obtain ⟨a, n, c, m, hNa⟩ := hNr'
        have y0 := hNa.c0
        have hln := hNa.strs.len
        have hzz := hbl.size
        go_wp2_with (first
          | (at_make; refine wpList_make_full _ rfl _ _ 29 rfl wz.heap.size 33 j0 (.int .u32 0) 1 Try.underlying29 hj0 jz0 jz1 _ _ _ _ n rfl rfl rfl rfl ?d1 ?d2 ?d3 ?_)
          | go_in)
        case d1 => first | omega | (rw [jz2]; omega)
        case d2 => unfold maxLen; omega
        case d3 => exact Nat.le_refl _
        intro w2 hown2 hg2
        have hb2 : Below wz.heap.size wz w2 := (Below.refl _ _).grown hg2 (Nat.le_refl _) (by simp)
        go_wp2
        go_loopg [13, 61] n (fun gk _ i wq => ∃ (k : Nat) (xs : List Value), gk = n - k ∧ k ≤ n ∧ i = .int .i64 k ∧ wq.ownsRow wz.heap.size 33 1 (.slice (some ⟨wz.heap.size, 0, none⟩) n n) n xs ∧ xs.take k = u32s id k ∧ Below wz.heap.size wz wq)
        case atStart => exact ⟨0, _, rfl, Nat.zero_le _, rfl, hown2, by simp [u32s], hb2⟩
        case round =>
          obtain ⟨k, xs, rfl, hk, rfl, hownq, htk, hbq⟩ := hrel
          have HTK := hide htk
          clear htk
          by_cases hlt : k < n
          · have h3 := hownq.frozenAt k
            have h4 := hownq.cellAt k (by omega)
            have hx : k < xs.length := by have := hownq.1; omega
            rw [List.getElem?_eq_getElem hx] at h4
            have HS := hide (hownq.stored k (.int .u32 (k : Int)))
            go_wp2
            go_roundg (n - (k + 1))
            case measure => omega
            case rel =>
              have hs := HS.out
              refine ⟨k + 1, _, rfl, by omega, by go_num, hs.1, ?_, hbq.grown hs.2 hbq.size (fun j hj => by cases hj; exact Nat.le_refl _)⟩
              rw [take_set_snoc xs _ k _ HTK.out hx, u32s_succ]
              rfl
          · have hxs : xs = u32s (upd (mvs.take 0)) n := by
              have e1 : xs.take k = xs := List.take_of_length_le (by have := hownq.1; omega)
              have e2 : k = n := by omega
              rw [← e1, HTK.out, e2]
              rfl
            rw [hxs] at hownq
            clear hxs HTK
            have hszq : wz.heap.size + 1 ≤ wr.heap.size := (hownq.lt _ rfl).2
            go_wp2
            clear hlt hk
            go_loopg [72] mvs.length (fun gk i wq => ∃ q : Nat, gk = mvs.length - q ∧ q ≤ mvs.length ∧ i = .int .i64 q ∧ wq.ownsRow wz.heap.size 33 1 (.slice (some ⟨wz.heap.size, 0, none⟩) n n) n (u32s (upd (mvs.take q)) n) ∧ wz.heap.size + 1 ≤ wq.heap.size ∧ Below wz.heap.size wz wq)
            case atStart => exact ⟨0, rfl, Nat.zero_le _, rfl, hownq, hszq, hbq⟩
            case round =>
              clear hownq hbq hszq
              obtain ⟨q, rfl, hq, rfl, hownq, hszq, hbq⟩ := hrel
              by_cases hlt : q < mvs.length
              · obtain ⟨f1, f2⟩ := flat_get hlt
                have t1 := hown.cellAt (q * 2) (by omega)
                have t2 := hown.cellAt (q * 2 + 1) (by omega)
                rw [f1] at t1
                rw [f2] at t2
                have t1' := cell_later hbq t1
                have t2' := cell_later hbq t2
                have hmq := (HI.out.moves _ (List.getElem_mem hlt)).1
                have HUP := hide (fun i => upd_take hlt i)
                generalize hpq : mvs[q] = pq at *
                obtain ⟨pf, pt⟩ := pq
                clear hpq f1 f2
                simp only at t1' t2' hmq
                clear t1 t2
                have o2 := hownq.alloc (Obj.cells #[.int .u32 (pf : Int), .int .u32 (pt : Int)] 73)
                have h3 := o2.frozenAt pf
                have h4 := o2.cellAt pf (by omega)
                rw [u32s_get _ (by omega)] at h4
                have HS := hide (o2.stored pf (.int .u32 (pt : Int)))
                go_wp2
                go_roundg (mvs.length - (q + 1))
                case measure => omega
                case rel =>
                  have hs := HS.out
                  refine ⟨q + 1, rfl, by omega, by go_num, ?_, Nat.le_trans (by simp; omega) hs.2.size, (hbq.alloc (by omega) _).grown hs.2 (by simp; omega) (fun j hj => by cases hj; exact Nat.le_refl _)⟩
                  have e : u32s (upd (mvs.take (q + 1))) n = (u32s (upd (mvs.take q)) n).set pf (.int .u32 (pt : Int)) := by
                    rw [u32s_set]
                    congr 1
                    funext i
                    exact HUP.out i
                  rw [e]
                  exact hs.1
              · have hqm : q = mvs.length := by omega
                have HOUT : Hid (RetOut wr (.slice (some ⟨wz.heap.size, 0, none⟩) n n) L L' g) := by
                  refine hide (.inr ⟨⟨wz.heap.size, 0, none⟩, n, upd mvs, by rw [hln], ?_, HI.out.retagged HD.out HLS.out, HI.out.hit hmv⟩)
                  rw [hqm, List.take_length] at hownq
                  obtain ⟨a', c', ea, hc, _, _⟩ := Cells1.of_owns hownq (f := fun i => .int .u32 ((upd mvs i : Nat) : Int)) (fun i hi => u32s_get _ hi)
                  cases ea
                  rw [hln]
                  exact hc
                have hNq := hNr.later hbq
                have hbb := below_via hbl hbq
                clear hqm hownq hmv
                go_wp2
                go_ret2
                exact ⟨b', L', _, rfl, hNq, HOUT.out, hbb⟩
    · intro s h w1 hs hl hgs hR1 hlt hg1 hs1 hen
      have HGG := hide hgs
      have hh' := HGS.out s h hgs
      clear hgs
      have hN1 : Names w1 b' L' := hNr.kept hg1 (fun g' o e ho => by cases e; exact hR.iter o ho)
      have hown1 := hown.kept hg1 (.inr (fun e => by have := (hown.lt _ e).1; omega))
      have hbl1 : Below w.heap.size w w1 := hbl.grown hg1 hbl.size (fun j hj => by cases hj; exact Nat.le_refl _)
      have hlt1 := hR1.lt
      clear hNr hown hR hg1 hbl
      have hN1' := hN1
      obtain ⟨a, n, c, m, hNa⟩ := hN1'
      have x1 := hNa.c1
      have hlk := look_idx hNa.map hs
      by_cases hm : s ∈ L'
      · have hh := hasIdx_iff.2 hm
        by_cases he : h = s
        · have hq : (!(h.toList == s.toList)) = false := by rw [beq_of_eq he]; rfl
          have HE := hide he
          clear he
          go_wp2
          go_roundg (w1.rangeLeft bh w.heap.size)
          case measure => exact hlt
          case rel => exact ⟨b', L', mvs, _, rfl, rfl, hN1, hR1, hown1, HNil, HI.out.skip HGG.out (fun _ => HE.out), by omega, by omega, hbl1⟩
        · have hq : (!(h.toList == s.toList)) = true := by rw [beq_of_ne he]; rfl
          have HE := hide he
          clear he
          go_wp2_with fail
          refine (with_any b' L' h _ hN1 hh' (by omega)).mono ?_
          rintro e w2 ⟨b2, rfl, hN2, hb2⟩
          have hown2 := hown1.kept (below_grown hb2 none) (by cases Value.ownBlock _ <;> simp)
          have hb2s := hb2.size
          go_wp2_with (first
            | (at_builtin; refine wpList_append_own _ rfl _ _ 69 rfl (w.heap.size + 1) 73 i0 (.agg #[.int .u32 0, .int .u32 0]) 2 8 Try.underlying69 hi hz0 hz1 hz2 rfl (by decide) _ _ _ rfl (hown2.alloc _) ⟨w2.heap.size, 0, none⟩ 1 1 [.int .u32 (atIdx L' s), .int .u32 (atIdx (withName L' h) h)] rfl rfl ?c1 ?c2 ?c3 ?c4 ?c5 ?_)
            | go_in)
          case c1 => exact two_new _ _ _ _
          case c2 => intro u hu; simp at hu; rcases hu with rfl | rfl <;> rfl
          case c3 => unfold maxLen; omega
          case c4 => omega
          case c5 => simp; omega
          intro v' w3 hown3 hg3 hiff
          have HOW := hide hown3
          have ho := hown2.lt
          have kb : ∀ q, q < w1.heap.size → q ≤ w.heap.size → w3.heap[q]? = w1.heap[q]? := fun q h1 h2 =>
            (hg3.block q (by simp; omega) (fun e => by have := (ho _ e.symm).1; omega)).trans ((below_via hb2 (below1 w2 _)).block q h1)
          have hR3 := hR1.block (kb bh hlt1.1 (by omega)) (kb _ hlt1.2.1 (Nat.le_refl _))
          have hl3 : w3.rangeLeft bh w.heap.size = w1.rangeLeft bh w.heap.size := rangeLeft_kept (kb bh hlt1.1 (by omega)) (kb _ hlt1.2.1 (Nat.le_refl _))
          have HL3 := hide hl3
          have hN3 := (hN2.later (below1 w2 (.cells #[.int .u32 (atIdx L' s), .int .u32 (atIdx (withName L' h) h)] 73))).kept hg3 (own_other (hown2.alloc _) (by decide) (by decide))
          have hbl3 := (below_via (below_via hbl1 hb2) (below1 w2 (.cells #[.int .u32 (atIdx L' s), .int .u32 (atIdx (withName L' h) h)] 73))).grown hg3 (by simp; omega) (fun j hj => by have := (ho _ hj).1; omega)
          have hs3 := hg3.size
          have HI3 := hide (HI.out.move HGG.out hm HE.out hs)
          have p1 := (atIdx_bd L' s).1
          have p2 := (atIdx_bd (withName L' h) h).1
          have HF := hide (flat_snoc' mvs p1 p2)
          clear kb hl3 hown3 hown2 hg3 hN2 hb2 hR1 hown1 hN1 hNa hlk
          go_wp2
          go_roundg (w3.rangeLeft bh w.heap.size)
          case measure => rw [HL3.out]; exact hlt
          case rel =>
            refine ⟨b2, withName L' h, mvs ++ [((atIdx L' s).toNat, (atIdx (withName L' h) h).toNat)], _, rfl, rfl, hN3, hR3, ?_, (fun e => by simp at e), HI3.out, ?_, ?_, hbl3⟩
            · rw [HF.out]
              simpa using HOW.out
            · rw [HL3.out]; simp; omega
            · simp at hs3; omega
      · have hh := hasIdx_false.2 hm
        go_wp2
        go_roundg (w1.rangeLeft bh w.heap.size)
        case measure => exact hlt
        case rel => exact ⟨b', L', mvs, _, rfl, rfl, hN1, hR1, hown1, HNil, HI.out.skip HGG.out (fun e => absurd e hm), by omega, by omega, hbl1⟩
end Go.Proofs.Qxb6600067a
