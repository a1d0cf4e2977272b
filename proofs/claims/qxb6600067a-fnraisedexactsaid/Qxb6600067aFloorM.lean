/-
  Floors in memory; ZZStepParts, ZZStep.
-/
import Derived.Test.Qxb6600067aBase
import Derived.Test.Qxb6600067aFloorP
import Derived.Deep.LoopGhost
import Derived.BigQuiet
import Derived.Deep.QuietTactic
import Derived.Deep.RegionHeld
namespace Go.Proofs.Qxb6600067a
open Go.RowKit

def stC (st : St) : List Value := [.int .u64 (st.a : Int), .int .u64 (st.b : Int), .int .u64 (st.v : Int), .string st.s]
def flatS (fl : List St) : List Value := fl.flatMap stC

theorem flatS_len (fl : List St) : (flatS fl).length = fl.length * 4 := by
  induction fl with
  | nil => rfl
  | cons x r ih => simp [flatS, stC] at ih ⊢; omega
theorem flatS_snoc (fl : List St) (st : St) : flatS (fl ++ [st]) = flatS fl ++ stC st := by simp [flatS]

theorem flatS_get {fl : List St} {i : Nat} (h : i < fl.length) : (flatS fl)[i * 4]? = some (.int .u64 ((stn fl i).a : Int)) ∧ (flatS fl)[i * 4 + 1]? = some (.int .u64 ((stn fl i).b : Int)) ∧ (flatS fl)[i * 4 + 2]? = some (.int .u64 ((stn fl i).v : Int)) ∧ (flatS fl)[i * 4 + 3]? = some (.string (stn fl i).s) := by
  induction fl generalizing i with
  | nil => simp at h
  | cons x r ih =>
    cases i with
    | zero => simp [flatS, stC, stn]
    | succ i =>
      have h' := ih (i := i) (by simpa using h)
      have e1 : (i + 1) * 4 = i * 4 + 4 := by omega
      have e2 : stn (x :: r) (i + 1) = stn r i := by simp [stn]
      rw [e1, e2]
      simpa [flatS, stC] using h'

theorem flatS_set {fl : List St} {i : Nat} (h : i < fl.length) (q : Nat) : (flatS fl).set (i * 4 + 1) (.int .u64 (q : Int)) = flatS (fl.set i ⟨(stn fl i).a, q, (stn fl i).v, (stn fl i).s⟩) := by
  induction fl generalizing i with
  | nil => simp at h
  | cons x r ih =>
    cases i with
    | zero => simp [flatS, stC, stn]
    | succ i =>
      have h' := ih (i := i) (by simpa using h)
      have e1 : (i + 1) * 4 + 1 = i * 4 + 1 + 4 := by omega
      have e2 : stn (x :: r) (i + 1) = stn r i := by simp [stn]
      rw [e1, e2]
      simpa [flatS, stC] using h'

def gOf (a : Option Addr) : Nat := match a with | some x => x.block | none => 0

/-- A floor in memory: nil, or at the head of a row. -/
structure Steps (w : World) (a : Option Addr) (n : Nat) (fl : List St) : Prop where
  len : fl.length = n
  cells : ∀ i, i < n → ∃ g, a = some ⟨g, 0, none⟩ ∧ w.cell? ⟨g, i * 4, none⟩ = some (.int .u64 ((stn fl i).a : Int)) ∧ w.cell? ⟨g, i * 4 + 1, none⟩ = some (.int .u64 ((stn fl i).b : Int)) ∧ w.cell? ⟨g, i * 4 + 2, none⟩ = some (.int .u64 ((stn fl i).v : Int)) ∧ w.cell? ⟨g, i * 4 + 3, none⟩ = some (.string (stn fl i).s)

theorem Steps.later {w w' : World} {a : Option Addr} {n : Nat} {fl : List St} (h : Steps w a n fl) (hb : Below w.heap.size w w') : Steps w' a n fl :=
  ⟨h.len, fun i hi => by
    obtain ⟨g, e, h0, h1, h2, h3⟩ := h.cells i hi
    exact ⟨g, e, cell_later hb h0, cell_later hb h1, cell_later hb h2, cell_later hb h3⟩⟩

theorem Steps.at {w : World} {a : Option Addr} {n : Nat} {fl : List St} (h : Steps w a n fl) {i : Nat} (hi : i < n) : w.cell? ⟨gOf a, i * 4, none⟩ = some (.int .u64 ((stn fl i).a : Int)) ∧ w.cell? ⟨gOf a, i * 4 + 1, none⟩ = some (.int .u64 ((stn fl i).b : Int)) ∧ w.cell? ⟨gOf a, i * 4 + 2, none⟩ = some (.int .u64 ((stn fl i).v : Int)) ∧ w.cell? ⟨gOf a, i * 4 + 3, none⟩ = some (.string (stn fl i).s) := by
  obtain ⟨g, rfl, hc⟩ := h.cells i hi
  exact hc

theorem size55 (W : World) : (sizeOf 55).run Try.prog W = .ok 4 W := by kernel_rfl
theorem info55 : (Try.prog.info? 55).map (fun i => (i.zero, i.size, i.bytes)) = some (some (.agg #[.int .u64 0, .int .u64 0, .int .u64 0, .string ByteArray.empty]), 4, 40) := by kernel_rfl

theorem Steps.ix {w : World} {a : Option Addr} {n : Nat} {fl : List St} (h : Steps w a n fl) (c i : Nat) (hi : i < n) (W : World) :
    (Instr.indexAt 48 (.slice a n c) (.int .i64 (i : Int))).run Try.prog W = .ok (.pointer (some ⟨gOf a, i * 4, none⟩)) W := by
  obtain ⟨g, rfl, _⟩ := h.cells i hi
  have h0 : (0 : Int) ≤ (i : Int) := by omega
  have h1 : ¬ n ≤ i := by omega
  simp [Instr.indexAt, run_underlying Try.underlying48, asIntOf, h0, h1, gOf, Result.andThen, Addr.add_lit]

theorem Steps.of_owns {w : World} {base : Nat} {v : Value} {n : Nat} {fl : List St} (h : w.ownsRow base 55 4 v n (flatS fl)) : ∃ a c, v = .slice a n c ∧ Steps w a n fl := by
  have hl : fl.length = n := by have := h.1; rw [flatS_len] at this; omega
  have hc := @World.ownsRow.cells _ _ _ _ _ _ _ h
  rcases h.2 with ⟨rfl, rfl⟩ | ⟨g, cap, cur, rfl, hb, hg, h1, h2, h3, h4⟩
  · exact ⟨none, 0, rfl, hl, fun i hi => by omega⟩
  · refine ⟨_, _, rfl, hl, fun i hi => ⟨g, rfl, ?_⟩⟩
    obtain ⟨f0, f1, f2, f3⟩ := flatS_get (fl := fl) (i := i) (by omega)
    have e : ∀ j, (⟨g, 0, none⟩ : Addr).add j = ⟨g, j, none⟩ := fun j => by rw [Addr.add_lit]; simp
    have c0 := hc rfl _ _ f0
    have c1 := hc rfl _ _ f1
    have c2 := hc rfl _ _ f2
    have c3 := hc rfl _ _ f3
    rw [e] at c0 c1 c2 c3
    exact ⟨c0, c1, c2, c3⟩

def stV (st : St) : Value := .agg #[.int .u64 (st.a : Int), .int .u64 (st.b : Int), .int .u64 (st.v : Int), .string st.s]

set_option maxHeartbeats 400000 in
theorem parts_any (a b v : Int) (s : ByteArray) (w : World) :
    Calls Try.prog 31 #[.agg #[.int .u64 a, .int .u64 b, .int .u64 v, .string s]] w fun e w' => e = .returned (.tuple #[.int .u64 a, .int .u64 b, .int .u64 v, .string s]) ∧ Below w.heap.size w w' := by
  go_enter Try.func31, Try.ntmps31
  go_wp2
  go_quiet (fail)
  go_wp2
  exact bodyPost_ret (v := .tuple #[.int .u64 a, .int .u64 b, .int .u64 v, .string s]) (by simp [results, Try.results31, go_sem]) rfl ⟨rfl, below_drewN (below1 w _) _⟩

set_option maxHeartbeats 400000 in
theorem step_any (a b v : Int) (s : ByteArray) (w : World) :
    Calls Try.prog 40 #[.int .u64 a, .int .u64 b, .int .u64 v, .string s] w fun e w' => e = .returned (.agg #[.int .u64 a, .int .u64 b, .int .u64 v, .string s]) ∧ Below w.heap.size w w' := by
  go_enter Try.func40, Try.ntmps40
  go_wp2
  exact bodyPost_ret (v := .agg #[.int .u64 a, .int .u64 b, .int .u64 v, .string s]) (by simp [results, Try.results40, go_sem]) rfl ⟨rfl, below1 w _⟩
end Go.Proofs.Qxb6600067a
