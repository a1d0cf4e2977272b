/-
  No cell of these rows narrows 'for every input' (looked for: loops, veiled, ifaces, maps, wideKeys, modest, calm, conditions, laid).
  DERIVED. THE GIVEN ROWS OF THIS SEAT. 8 by the template 'for every input the law returns true; each argument reads behind the call as it read before'; 0 by the template 'total and deterministic' (their statements: Qxb6600067aTotals.lean).
  GIVEN WITH THE SEED: the statements are not yours to turn. If you find one false, say at which input.
  Laid BY PROGRAM, IN A SANDBOX (cutbox-rows.mjs): the forced cells as the released guide's own fill.sh prints them over the translation a4879bee045deb81… (all of the seat's roots in one cut). By AI agents, Wed Nov 11 2026. No macro, syntax, notation, axiom, sorry.
-/
import Derived.Test.Qxb6600067aChecked
import GoSem.Claim
import GoSem.ClaimJoined
import GoSem.ClaimMapViews
import Derived.JoinedTies
import Derived.KernelRfl
namespace Go.Proofs.Qxb6600067a
/- THE CELL 'sum', in the pinned program and in every row, IS THE sha256 OF THE DUMP (.gsa) THAT Qxb6600067aProg.lean LOADS. Nothing in Lean hashes anything: it is a label: what it is worth is what the hold of that sum in a sandbox is worth. -/
noncomputable def Try.pinned : Pinned := { name := "qxb6600067a", sum := "a4879bee045deb8185d5877ae50f9ccdad2af888e015559baeea3ebe645ef6de", checked := Try.checked }
namespace Rows
def none {H : Type} : Left H := { results := [], args := [] }

/-- 'zzlaws_internal_ring_b1.FnWithAllExact': WHATEVER THE INPUT: true; the input reads as it did. -/
def fnWithAllExactSpec : ChangeSpec := { name := "fnWithAllExact", fn := fun _ => fun
  | [d1, d2] => { results := [.lit (.bool true)], args := [d1, d2] }
  | _ => none }
def fnWithAllExactRow : OpenClaim := { program := "qxb6600067a", sum := "a4879bee045deb8185d5877ae50f9ccdad2af888e015559baeea3ebe645ef6de", func := "example.com/parcelring/parcelring/zzlaws_internal_ring_b1.FnWithAllExact", spec := "fnWithAllExact", apart := false }
def FnWithAllExactSaid : Prop := fnWithAllExactRow.holds Try.pinned (OpenSpec.ofChange fnWithAllExactSpec)

/-- ITS FALSE NEIGHBOUR: 'it returns false'. Refute it at one input. -/
def fnWithAllExactWrong : ChangeSpec := { name := "fnWithAllExact", fn := fun _ => fun
  | [d1, d2] => { results := [.lit (.bool false)], args := [d1, d2] }
  | _ => none }
def FnWithAllExactWrongFalsely : Prop := fnWithAllExactRow.holds Try.pinned (OpenSpec.ofChange fnWithAllExactWrong)

/-- 'zzlaws_internal_ring_b1.FnWithAllIdempotent': WHATEVER THE INPUT: true; the input reads as it did. -/
def fnWithAllIdempotentSpec : ChangeSpec := { name := "fnWithAllIdempotent", fn := fun _ => fun
  | [d1, d2] => { results := [.lit (.bool true)], args := [d1, d2] }
  | _ => none }
def fnWithAllIdempotentRow : OpenClaim := { program := "qxb6600067a", sum := "a4879bee045deb8185d5877ae50f9ccdad2af888e015559baeea3ebe645ef6de", func := "example.com/parcelring/parcelring/zzlaws_internal_ring_b1.FnWithAllIdempotent", spec := "fnWithAllIdempotent", apart := false }
def FnWithAllIdempotentSaid : Prop := fnWithAllIdempotentRow.holds Try.pinned (OpenSpec.ofChange fnWithAllIdempotentSpec)

/-- ITS FALSE NEIGHBOUR: 'it returns false'. Refute it at one input. -/
def fnWithAllIdempotentWrong : ChangeSpec := { name := "fnWithAllIdempotent", fn := fun _ => fun
  | [d1, d2] => { results := [.lit (.bool false)], args := [d1, d2] }
  | _ => none }
def FnWithAllIdempotentWrongFalsely : Prop := fnWithAllIdempotentRow.holds Try.pinned (OpenSpec.ofChange fnWithAllIdempotentWrong)

/-- 'zzlaws_internal_ring_b1.FnWithAllSameNamesEitherWay': WHATEVER THE INPUT: true; the input reads as it did. -/
def fnWithAllSameNamesEitherWaySpec : ChangeSpec := { name := "fnWithAllSameNamesEitherWay", fn := fun _ => fun
  | [d1, d2] => { results := [.lit (.bool true)], args := [d1, d2] }
  | _ => none }
def fnWithAllSameNamesEitherWayRow : OpenClaim := { program := "qxb6600067a", sum := "a4879bee045deb8185d5877ae50f9ccdad2af888e015559baeea3ebe645ef6de", func := "example.com/parcelring/parcelring/zzlaws_internal_ring_b1.FnWithAllSameNamesEitherWay", spec := "fnWithAllSameNamesEitherWay", apart := false }
def FnWithAllSameNamesEitherWaySaid : Prop := fnWithAllSameNamesEitherWayRow.holds Try.pinned (OpenSpec.ofChange fnWithAllSameNamesEitherWaySpec)

/-- ITS FALSE NEIGHBOUR: 'it returns false'. Refute it at one input. -/
def fnWithAllSameNamesEitherWayWrong : ChangeSpec := { name := "fnWithAllSameNamesEitherWay", fn := fun _ => fun
  | [d1, d2] => { results := [.lit (.bool false)], args := [d1, d2] }
  | _ => none }
def FnWithAllSameNamesEitherWayWrongFalsely : Prop := fnWithAllSameNamesEitherWayRow.holds Try.pinned (OpenSpec.ofChange fnWithAllSameNamesEitherWayWrong)

/-- 'zzlaws_internal_ring_b1.FnRetaggingExact': WHATEVER THE INPUT: true; the input reads as it did. -/
def fnRetaggingExactSpec : ChangeSpec := { name := "fnRetaggingExact", fn := fun _ => fun
  | [d1, d2, d3] => { results := [.lit (.bool true)], args := [d1, d2, d3] }
  | _ => none }
def fnRetaggingExactRow : OpenClaim := { program := "qxb6600067a", sum := "a4879bee045deb8185d5877ae50f9ccdad2af888e015559baeea3ebe645ef6de", func := "example.com/parcelring/parcelring/zzlaws_internal_ring_b1.FnRetaggingExact", spec := "fnRetaggingExact", apart := false }
def FnRetaggingExactSaid : Prop := fnRetaggingExactRow.holds Try.pinned (OpenSpec.ofChange fnRetaggingExactSpec)

/-- ITS FALSE NEIGHBOUR: 'it returns false'. Refute it at one input. -/
def fnRetaggingExactWrong : ChangeSpec := { name := "fnRetaggingExact", fn := fun _ => fun
  | [d1, d2, d3] => { results := [.lit (.bool false)], args := [d1, d2, d3] }
  | _ => none }
def FnRetaggingExactWrongFalsely : Prop := fnRetaggingExactRow.holds Try.pinned (OpenSpec.ofChange fnRetaggingExactWrong)

/-- 'zzlaws_internal_ring_b1.FnRetaggingIgnoresOthers': WHATEVER THE INPUT: true; the input reads as it did. -/
def fnRetaggingIgnoresOthersSpec : ChangeSpec := { name := "fnRetaggingIgnoresOthers", fn := fun _ => fun
  | [d1, d2, d3] => { results := [.lit (.bool true)], args := [d1, d2, d3] }
  | _ => none }
def fnRetaggingIgnoresOthersRow : OpenClaim := { program := "qxb6600067a", sum := "a4879bee045deb8185d5877ae50f9ccdad2af888e015559baeea3ebe645ef6de", func := "example.com/parcelring/parcelring/zzlaws_internal_ring_b1.FnRetaggingIgnoresOthers", spec := "fnRetaggingIgnoresOthers", apart := false }
def FnRetaggingIgnoresOthersSaid : Prop := fnRetaggingIgnoresOthersRow.holds Try.pinned (OpenSpec.ofChange fnRetaggingIgnoresOthersSpec)

/-- ITS FALSE NEIGHBOUR: 'it returns false'. Refute it at one input. -/
def fnRetaggingIgnoresOthersWrong : ChangeSpec := { name := "fnRetaggingIgnoresOthers", fn := fun _ => fun
  | [d1, d2, d3] => { results := [.lit (.bool false)], args := [d1, d2, d3] }
  | _ => none }
def FnRetaggingIgnoresOthersWrongFalsely : Prop := fnRetaggingIgnoresOthersRow.holds Try.pinned (OpenSpec.ofChange fnRetaggingIgnoresOthersWrong)

/-- 'zzlaws_internal_ring_b1.FnRaisedExact': WHATEVER THE INPUT: true; the input reads as it did. -/
def fnRaisedExactSpec : ChangeSpec := { name := "fnRaisedExact", fn := fun _ => fun
  | [d1, d2, d3, d4, d5, d6, d7, d8] => { results := [.lit (.bool true)], args := [d1, d2, d3, d4, d5, d6, d7, d8] }
  | _ => none }
def fnRaisedExactRow : OpenClaim := { program := "qxb6600067a", sum := "a4879bee045deb8185d5877ae50f9ccdad2af888e015559baeea3ebe645ef6de", func := "example.com/parcelring/parcelring/zzlaws_internal_ring_b1.FnRaisedExact", spec := "fnRaisedExact", apart := false }
def FnRaisedExactSaid : Prop := fnRaisedExactRow.holds Try.pinned (OpenSpec.ofChange fnRaisedExactSpec)

/-- ITS FALSE NEIGHBOUR: 'it returns false'. Refute it at one input. -/
def fnRaisedExactWrong : ChangeSpec := { name := "fnRaisedExact", fn := fun _ => fun
  | [d1, d2, d3, d4, d5, d6, d7, d8] => { results := [.lit (.bool false)], args := [d1, d2, d3, d4, d5, d6, d7, d8] }
  | _ => none }
def FnRaisedExactWrongFalsely : Prop := fnRaisedExactRow.holds Try.pinned (OpenSpec.ofChange fnRaisedExactWrong)

/-- 'zzlaws_internal_ring_b1.FnRaisedIdempotent': WHATEVER THE INPUT: true; the input reads as it did. -/
def fnRaisedIdempotentSpec : ChangeSpec := { name := "fnRaisedIdempotent", fn := fun _ => fun
  | [d1, d2, d3, d4, d5, d6, d7, d8] => { results := [.lit (.bool true)], args := [d1, d2, d3, d4, d5, d6, d7, d8] }
  | _ => none }
def fnRaisedIdempotentRow : OpenClaim := { program := "qxb6600067a", sum := "a4879bee045deb8185d5877ae50f9ccdad2af888e015559baeea3ebe645ef6de", func := "example.com/parcelring/parcelring/zzlaws_internal_ring_b1.FnRaisedIdempotent", spec := "fnRaisedIdempotent", apart := false }
def FnRaisedIdempotentSaid : Prop := fnRaisedIdempotentRow.holds Try.pinned (OpenSpec.ofChange fnRaisedIdempotentSpec)

/-- ITS FALSE NEIGHBOUR: 'it returns false'. Refute it at one input. -/
def fnRaisedIdempotentWrong : ChangeSpec := { name := "fnRaisedIdempotent", fn := fun _ => fun
  | [d1, d2, d3, d4, d5, d6, d7, d8] => { results := [.lit (.bool false)], args := [d1, d2, d3, d4, d5, d6, d7, d8] }
  | _ => none }
def FnRaisedIdempotentWrongFalsely : Prop := fnRaisedIdempotentRow.holds Try.pinned (OpenSpec.ofChange fnRaisedIdempotentWrong)

/-- 'zzlaws_internal_ring_b1.FnRaisedCommutes': WHATEVER THE INPUT: true; the input reads as it did. -/
def fnRaisedCommutesSpec : ChangeSpec := { name := "fnRaisedCommutes", fn := fun _ => fun
  | [d1, d2, d3, d4, d5, d6, d7, d8, d9, d10, d11, d12] => { results := [.lit (.bool true)], args := [d1, d2, d3, d4, d5, d6, d7, d8, d9, d10, d11, d12] }
  | _ => none }
def fnRaisedCommutesRow : OpenClaim := { program := "qxb6600067a", sum := "a4879bee045deb8185d5877ae50f9ccdad2af888e015559baeea3ebe645ef6de", func := "example.com/parcelring/parcelring/zzlaws_internal_ring_b1.FnRaisedCommutes", spec := "fnRaisedCommutes", apart := false }
def FnRaisedCommutesSaid : Prop := fnRaisedCommutesRow.holds Try.pinned (OpenSpec.ofChange fnRaisedCommutesSpec)

/-- ITS FALSE NEIGHBOUR: 'it returns false'. Refute it at one input. -/
def fnRaisedCommutesWrong : ChangeSpec := { name := "fnRaisedCommutes", fn := fun _ => fun
  | [d1, d2, d3, d4, d5, d6, d7, d8, d9, d10, d11, d12] => { results := [.lit (.bool false)], args := [d1, d2, d3, d4, d5, d6, d7, d8, d9, d10, d11, d12] }
  | _ => none }
def FnRaisedCommutesWrongFalsely : Prop := fnRaisedCommutesRow.holds Try.pinned (OpenSpec.ofChange fnRaisedCommutesWrong)

end Rows
end Go.Proofs.Qxb6600067a
