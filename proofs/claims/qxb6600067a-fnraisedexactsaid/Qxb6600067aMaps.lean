/-
  A map keyed by strings, whatever its elements: block b holds what a plain function says. Over any program.
-/
import Derived.WalkKit
import Derived.WalkSpells
import Derived.WalkLawsBesides
import Derived.Maps.RangeWalk
import Derived.StringKeys
namespace Go.Proofs.Qxb6600067a
open Go.RowKit Go.Maps Go.WideMaps

theorem lit_inj {s t : ByteArray} (h : s.data.toList = t.data.toList) : s = t := by
  cases s; cases t; simp at h; rw [h]

/-- An element reads as itself. -/
def anyElem (v : Value) : Option (DataW Value × List MemPlace) := some (.held v, [])

/-- What the datum D holds at each string is what f says. -/
def View (D : DataW Value) (f : ByteArray → Option Value) : Prop :=
  ∀ s : ByteArray, s.size ≤ maxLen → (f s = none → Maps.has D (.string s.data.toList) = false) ∧ (∀ v, f s = some v → ∀ z, D.atKey (.string s.data.toList) z = .held v)

/-- Block b is a map of at most n entries, keyed by strings; at s stands f s. -/
def MapAt (P : Program) (k : TypeId) (w : World) (b n : Nat) (f : ByteArray → Option Value) : Prop :=
  ∃ D : DataW Value, w.ownsMap P k anyElem b n D ∧ View D f

section
variable {P : Program} {k : TypeId} {w : World} {b n : Nat} {f : ByteArray → Option Value}

theorem View.has {D : DataW Value} (h : View D f) {s : ByteArray} (hs : s.size ≤ maxLen) : Maps.has D (.string s.data.toList) = (f s).isSome := by
  cases hf : f s with
  | none => simpa using (h s hs).1 hf
  | some v => simpa using has_true_of_atKey ((h s hs).2 v hf)

theorem View.at {D : DataW Value} (h : View D f) {s : ByteArray} (hs : s.size ≤ maxLen) (z : Value) : D.atKey (.string s.data.toList) (.held z) = .held ((f s).getD z) := by
  cases hf : f s with
  | none => rw [atKey_of_not_has ((h s hs).1 hf)]; rfl
  | some v => exact (h s hs).2 v hf _

theorem View.empty : View (.map []) (fun _ => none) := fun _ _ => ⟨fun _ => rfl, fun _ h => by cases h⟩

theorem View.put {D : DataW Value} (h : View D f) (hD : IsMap D) (s : ByteArray) (v : Value) : View (D.put (.string s.data.toList) (.held v)) (fun x => if x = s then some v else f x) := by
  intro x hx
  by_cases e : x = s
  · subst e
    simp only [if_true]
    refine ⟨(fun h => by cases h), fun u hu z => ?_⟩
    cases hu
    exact atKey_put_same (k := .string x.data.toList) hD trivial _ _
  · have hne : Lit.string x.data.toList ≠ .string s.data.toList := fun h => e (lit_inj (Lit.string.inj h))
    simp only [if_neg e]
    exact ⟨fun hf => by rw [has_put_other hne]; exact (h x hx).1 hf, fun u hu z => by rw [atKey_put_other hne]; exact (h x hx).2 u hu z⟩

theorem MapAt.lt (h : MapAt P k w b n f) : b < w.heap.size := by
  obtain ⟨D, h, _⟩ := h
  exact h.lt

theorem MapAt.made (w : World) : MapAt P k (w.alloc (.map #[] 0)) w.heap.size 0 (fun _ => none) :=
  ⟨_, World.ownsMap_made _ _ _ _, View.empty⟩

theorem MapAt.mono (h : MapAt P k w b n f) {n' : Nat} (hn : n ≤ n') : MapAt P k w b n' f := by
  obtain ⟨D, h, hv⟩ := h
  exact ⟨D, h.mono hn, hv⟩

theorem MapAt.block {w' : World} (h : MapAt P k w b n f) (hb : w'.heap[b]? = w.heap[b]?) : MapAt P k w' b n f := by
  obtain ⟨D, ⟨es, clock, h1, h2⟩, hv⟩ := h
  exact ⟨D, ⟨es, clock, hb.trans h1, h2⟩, hv⟩

theorem MapAt.kept {w' : World} {row : Option Nat} (h : MapAt P k w b n f) (hg : w.grownBy w' row) (hne : some b ≠ row) : MapAt P k w' b n f :=
  h.block (hg.block b h.lt hne)

theorem MapAt.below {w' : World} {B : Nat} (h : MapAt P k w b n f) (hg : Below B w w') (hb : b < B) : MapAt P k w' b n f :=
  h.block (hg.block b hb)

theorem MapAt.alloc (h : MapAt P k w b n f) (o : Obj) : MapAt P k (w.alloc o) b n f := h.kept (World.grownBy_alloc w o none) (by simp)

theorem MapAt.drew (h : MapAt P k w b n f) : MapAt P k w.drew b n f := h

theorem MapAt.congr (h : MapAt P k w b n f) {g : ByteArray → Option Value} (hg : ∀ s, s.size ≤ maxLen → f s = g s) : MapAt P k w b n g := by
  obtain ⟨D, h, hv⟩ := h
  exact ⟨D, h, fun s hs => by rw [← hg s hs]; exact hv s hs⟩

/-- 'm[k]' -/
theorem MapAt.look (h : MapAt P k w b n f) (hk : P.underlying k = some .string) {t e : TypeId} (ht : P.underlying t = some (.map k e)) {z : Value} (hz : (zeroValue e).run P w = .ok z w) {s : ByteArray} (hs : s.size ≤ maxLen) :
    (Instr.lookup t (.map (some b)) (.string s) false).run P w = .ok ((f s).getD z) w := by
  obtain ⟨D, h, hv⟩ := h
  obtain ⟨v, ps, hrun, hr⟩ := h.lookup (string_keyed hk) ht hz (zd := .held z) (zp := []) rfl (keyOf_string_mk hk hs)
  rw [hv.at hs] at hr
  simp only [anyElem, Option.some.injEq, Prod.mk.injEq, DataW.held.injEq] at hr
  rw [hrun, hr.1]

/-- 'v, ok := m[k]' -/
theorem MapAt.look_ok (h : MapAt P k w b n f) (hk : P.underlying k = some .string) {t e : TypeId} (ht : P.underlying t = some (.map k e)) {z : Value} (hz : (zeroValue e).run P w = .ok z w) {s : ByteArray} (hs : s.size ≤ maxLen) :
    (Instr.lookup t (.map (some b)) (.string s) true).run P w = .ok (.tuple #[(f s).getD z, .bool (f s).isSome]) w := by
  obtain ⟨D, h, hv⟩ := h
  obtain ⟨v, ps, hrun, hr⟩ := h.look_ok (string_keyed hk) ht hz (zd := .held z) (zp := []) rfl (keyOf_string_mk hk hs)
  rw [hv.at hs] at hr
  simp only [anyElem, Option.some.injEq, Prod.mk.injEq, DataW.held.injEq] at hr
  rw [hrun, hr.1, hv.has hs]

/-- 'm[k] = v' -/
theorem MapAt.store (h : MapAt P k w b n f) (hk : P.underlying k = some .string) {t e : TypeId} (ht : P.underlying t = some (.map k e)) (hn : n < maxLen) {s : ByteArray} (hs : s.size ≤ maxLen) (v : Value) :
    ∃ w', (Instr.mapUpdate t (.map (some b)) (.string s) v).run P w = .ok () w' ∧ MapAt P k w' b (n + 1) (fun x => if x = s then some v else f x) ∧ w.grownBy w' (some b) ∧ w'.heap.size = w.heap.size := by
  obtain ⟨D, h, hv⟩ := h
  have hD := h.isMap
  obtain ⟨w', hrun, h1, h2⟩ := h.store (string_keyed hk) ht hn (keyOf_string_mk hk hs) (val := v) (d := .held v) (ps := []) rfl
  refine ⟨w', hrun, ⟨_, h1, hv.put hD s v⟩, h2.grown, ?_⟩
  obtain ⟨es, clock, es', clock', _, rfl⟩ := h2
  simp [ChangeMaps.setBlock]

/-- .. at the operation. -/
theorem wpList_store (w : World) {ops : Array Oper} {rest : List Oper} {o : Oper} {a : Act} {Q : Exit → Act → World → Prop}
    (hg : o.guard = none) (m x v : Operand) (t : TypeId) (hop : o.op = Op.mapUpdate t m x v)
    (k e : TypeId) (hk : P.underlying k = some .string) (ht : P.underlying t = some (.map k e)) (b n : Nat) (f : ByteArray → Option Value)
    (hm : a.eval m = .map (some b)) (hown : MapAt P k w b n f) (hn : n < maxLen) (s : ByteArray) (val : Value) (hx : a.eval x = .string s) (hv : a.eval v = val) (hs : s.size ≤ maxLen)
    (hK : ∀ w', MapAt P k w' b (n + 1) (fun x => if x = s then some val else f x) → w.grownBy w' (some b) → w'.heap.size = w.heap.size → wpList P ops Q rest (a.put o.dst undef) w') :
    wpList P ops Q (o :: rest) a w := by
  refine wpList_plain hg fun K' hK' => ?_
  obtain ⟨w', hrun, r1, r2, r3⟩ := hown.store hk ht hn hs val
  unfold Oper.wp
  simp [execOp, hop, hm, hx, hv, hrun, Result.andThen]
  exact hK' _ _ (hK w' r1 r2 r3)

theorem keyOf_string_inv (hk : P.underlying k = some .string) {key : Value} {kl : Lit} (h : keyOf P k key = some kl) : ∃ s : ByteArray, key = .string s ∧ kl = .string s.data.toList ∧ s.size ≤ maxLen := by
  cases key <;> simp [keyOf, hk, mapKey] at h
  obtain ⟨hs, rfl⟩ := h
  exact ⟨_, rfl, rfl, hs⟩

/-- 'for k, v := range m' under way: block r is the iterator, 'left s': s is still to come. -/
def RangeAt (P : Program) (k : TypeId) (w : World) (b r n : Nat) (f : ByteArray → Option Value) (left : ByteArray → Prop) : Prop :=
  ∃ (D : DataW Value) (lf : Lit → Bool) (cnt : Nat), w.ranges P k anyElem b r n D lf cnt ∧ View D f ∧ ∀ s : ByteArray, s.size ≤ maxLen → (lf (.string s.data.toList) = true ↔ left s)

theorem RangeAt.map {r : Nat} {left : ByteArray → Prop} (h : RangeAt P k w b r n f left) : MapAt P k w b n f := by
  obtain ⟨D, lf, cnt, h, hv, _⟩ := h
  exact ⟨D, h.owns, hv⟩

theorem RangeAt.kept {r : Nat} {left : ByteArray → Prop} {w' : World} {row : Option Nat} (h : RangeAt P k w b r n f left) (hg : w.grownBy w' row) (hb : some b ≠ row) (hr : some r ≠ row) : RangeAt P k w' b r n f left := by
  obtain ⟨D, lf, cnt, h, hv⟩ := h
  exact ⟨D, lf, cnt, h.kept hg hb hr, hv⟩

theorem RangeAt.lt {r : Nat} {left : ByteArray → Prop} (h : RangeAt P k w b r n f left) : b < w.heap.size ∧ r < w.heap.size ∧ r ≠ b := by
  obtain ⟨D, lf, cnt, h, hv⟩ := h
  exact ⟨h.owns.lt, h.lt, h.ne⟩

theorem rangeLeft_kept {w' : World} {r : Nat} (h1 : w'.heap[b]? = w.heap[b]?) (h2 : w'.heap[r]? = w.heap[r]?) : w'.rangeLeft b r = w.rangeLeft b r := by
  simp only [World.rangeLeft, h1, h2]

/-- 'make(map[K]V, n)': the hint turns nothing. -/
theorem run_makeMap_hint {t k e : TypeId} (ht : P.underlying t = some (.map k e)) (q : IntKind) (x : Int) (w : World) : (Instr.makeMap t (some (.int q x))).run P w = .ok (.map (some w.heap.size)) (w.alloc (.map #[] 0)) := by
  simp [Instr.makeMap, run_underlying ht, asInt, asIntOf, Result.andThen]

/-- 'range m' at the operation. -/
theorem wpList_range (w : World) {ops : Array Oper} {rest : List Oper} {o : Oper} {a : Act} {Q : Exit → Act → World → Prop}
    (hg : o.guard = none) (m : Operand) (t : TypeId) (hop : o.op = Op.range t m) (k e : TypeId) (hk : P.underlying k = some .string) (ht : P.underlying t = some (.map k e)) (b n : Nat) (f : ByteArray → Option Value)
    (hm : a.eval m = .map (some b)) (hown : MapAt P k w b n f)
    (hK : ∀ w', RangeAt P k w' b w.heap.size n f (fun s => (f s).isSome = true) → w.grownBy w' none → w'.heap.size = w.heap.size + 1 → wpList P ops Q rest (a.put o.dst (.pointer (some ⟨w.heap.size, 0, none⟩))) w') :
    wpList P ops Q (o :: rest) a w := by
  obtain ⟨D, h, hv⟩ := hown
  exact wpList_range_own w hg m t hop k e (string_keyed hk) ht anyElem b n D hm h (fun w' h1 h2 h3 => hK w' ⟨D, _, _, h1, hv, fun s hs => by rw [hv.has hs]⟩ h2 h3)

/-- THE STEP. -/
theorem wpList_next (w : World) {ops : Array Oper} {rest : List Oper} {o : Oper} {a : Act} {Q : Exit → Act → World → Prop}
    (hg : o.guard = none) (it : Operand) (hop : o.op = Op.next it false) (k : TypeId) (hk : P.underlying k = some .string) (b r n : Nat) (f : ByteArray → Option Value) (left : ByteArray → Prop)
    (hit : a.eval it = .pointer (some ⟨r, 0, none⟩)) (h : RangeAt P k w b r n f left)
    (hDone : (∀ s, s.size ≤ maxLen → ¬ left s) → wpList P ops Q rest (a.put o.dst (.tuple #[.bool false])) w)
    (hMore : ∀ (s : ByteArray) (v : Value) (w' : World), s.size ≤ maxLen → left s → f s = some v → RangeAt P k w' b r n f (fun z => left z ∧ z ≠ s) → w'.rangeLeft b r < w.rangeLeft b r →
      w.grownBy w' (some r) → w'.heap.size = w.heap.size → (Instr.entry (.pointer (some ⟨r, 0, none⟩))).run P w' = .ok (.tuple #[.string s, v]) w' → wpList P ops Q rest (a.put o.dst (.tuple #[.bool true, .string s, v])) w') :
    wpList P ops Q (o :: rest) a w := by
  obtain ⟨D, lf, cnt, h, hv, hlf⟩ := h
  refine wpList_plain hg fun K' hK' => ?_
  unfold Oper.wp
  rcases h.next (string_keyed hk) o.type with ⟨h0, hl, hrun⟩ | ⟨key, v, kl, y, w', cnt', hkey, hlk, hvv, hat, hrun, hrg, hlt, hgr, hsz, hen⟩
  · simp [execOp, hop, hit, hrun, Result.andThen]
    refine hK' _ _ (hDone fun s hs hl' => ?_)
    have := (hlf s hs).2 hl'
    rw [hl] at this
    cases this
  · obtain ⟨s, rfl, rfl, hs⟩ := keyOf_string_inv hk hkey
    simp only [anyElem, Option.some.injEq] at hvv
    subst hvv
    simp [execOp, hop, hit, hrun, Result.andThen]
    refine hK' _ _ (hMore s v w' hs ((hlf s hs).1 hlk) ?_ ⟨D, _, cnt', hrg, hv, fun z hz => ?_⟩ (by rw [hrg.left_eq, h.left_eq]; exact hlt) hgr hsz hen)
    · cases hf : f s with
      | none => have := (hv s hs).1 hf; rw [has_true_of_atKey hat] at this; cases this
      | some u =>
        have := ((hv s hs).2 u hf .nil).symm.trans (hat .nil)
        simpa using this
    · rw [Bool.and_eq_true, hlf z hz]
      have : (!(Lit.string z.data.toList).sameKey (.string s.data.toList)) = true ↔ z ≠ s := by
        by_cases e : z = s
        · subst e
          simp [WideAt.sameKey_self (show WideAt.IsKeyLit (.string z.data.toList) from trivial)]
        · simp [e, sameKey_ne (show Lit.string z.data.toList ≠ .string s.data.toList from fun h => e (lit_inj (Lit.string.inj h)))]
      rw [this]

/-- THE STEP, the elements of one shape. -/
theorem wpList_next_mk {α : Type} (mk : α → Value) (g : ByteArray → Option α) (w : World) {ops : Array Oper} {rest : List Oper} {o : Oper} {a : Act} {Q : Exit → Act → World → Prop}
    (hg : o.guard = none) (it : Operand) (hop : o.op = Op.next it false) (k : TypeId) (hk : P.underlying k = some .string) (b r n : Nat) (left : ByteArray → Prop)
    (hit : a.eval it = .pointer (some ⟨r, 0, none⟩)) (h : RangeAt P k w b r n (fun s => (g s).map mk) left)
    (hDone : (∀ s, s.size ≤ maxLen → ¬ left s) → wpList P ops Q rest (a.put o.dst (.tuple #[.bool false])) w)
    (hMore : ∀ (s : ByteArray) (c : α) (w' : World), s.size ≤ maxLen → left s → g s = some c → RangeAt P k w' b r n (fun s => (g s).map mk) (fun z => left z ∧ z ≠ s) → w'.rangeLeft b r < w.rangeLeft b r →
      w.grownBy w' (some r) → w'.heap.size = w.heap.size → (Instr.entry (.pointer (some ⟨r, 0, none⟩))).run P w' = .ok (.tuple #[.string s, mk c]) w' → wpList P ops Q rest (a.put o.dst (.tuple #[.bool true, .string s, mk c])) w') :
    wpList P ops Q (o :: rest) a w := by
  refine wpList_next w hg it hop k hk b r n _ left hit h hDone ?_
  intro s v w' h1 h2 h3 h4 h5 h6 h7 h8
  obtain ⟨c, hc, rfl⟩ := Option.map_eq_some_iff.1 h3
  exact hMore s c w' h1 h2 hc h4 h5 h6 h7 h8

end
end Go.Proofs.Qxb6600067a
