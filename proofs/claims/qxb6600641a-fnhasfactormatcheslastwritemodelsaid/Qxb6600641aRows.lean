/-
  No cell of these rows narrows 'for every input' (looked for: loops, veiled, ifaces, maps, wideKeys, modest, calm, conditions, laid).
  DERIVED. THE GIVEN ROWS OF THIS SEAT. 3 by the template 'for every input the law returns true; each argument reads behind the call as it read before'; 0 by the template 'total and deterministic' (their statements: Qxb6600641aTotals.lean).
  GIVEN WITH THE SEED: the statements are not yours to turn. If you find one false, say at which input.
  Laid BY PROGRAM, IN A SANDBOX (cutbox-rows.mjs): the forced cells as the released guide's own fill.sh prints them over the translation eed0a349807c299b… (all of the seat's roots in one cut). By AI agents, Wed Nov 11 2026. No macro, syntax, notation, axiom, sorry.
-/
import Derived.Test.Qxb6600641aChecked
import GoSem.Claim
import GoSem.ClaimJoined
import GoSem.ClaimMapViews
import Derived.JoinedTies
import Derived.KernelRfl
namespace Go.Proofs.Qxb6600641a
/- THE CELL 'sum', in the pinned program and in every row, IS THE sha256 OF THE DUMP (.gsa) THAT Qxb6600641aProg.lean LOADS. Nothing in Lean hashes anything: it is a label: what it is worth is what the hold of that sum in a sandbox is worth. -/
noncomputable def Try.pinned : Pinned := { name := "qxb6600641a", sum := "eed0a349807c299b2b189c002bc9f580953b4107f1b6262cfc3c5354bbf366c2", checked := Try.checked }
namespace Rows
def none {H : Type} : Left H := { results := [], args := [] }

/-- 'zzlaws_internal_model_b1.FnHasFactorMatchesLastWriteModel': WHATEVER THE INPUT: true; the input reads as it did. -/
def fnHasFactorMatchesLastWriteModelSpec : ChangeSpec := { name := "fnHasFactorMatchesLastWriteModel", fn := fun _ => fun
  | [d1, d2, d3] => { results := [.lit (.bool true)], args := [d1, d2, d3] }
  | _ => none }
def fnHasFactorMatchesLastWriteModelRow : OpenClaim := { program := "qxb6600641a", sum := "eed0a349807c299b2b189c002bc9f580953b4107f1b6262cfc3c5354bbf366c2", func := "example.com/keelson/keelson/zzlaws_internal_model_b1.FnHasFactorMatchesLastWriteModel", spec := "fnHasFactorMatchesLastWriteModel", apart := false }
def FnHasFactorMatchesLastWriteModelSaid : Prop := fnHasFactorMatchesLastWriteModelRow.holds Try.pinned (OpenSpec.ofChange fnHasFactorMatchesLastWriteModelSpec)

/-- ITS FALSE NEIGHBOUR: 'it returns false'. Refute it at one input. -/
def fnHasFactorMatchesLastWriteModelWrong : ChangeSpec := { name := "fnHasFactorMatchesLastWriteModel", fn := fun _ => fun
  | [d1, d2, d3] => { results := [.lit (.bool false)], args := [d1, d2, d3] }
  | _ => none }
def FnHasFactorMatchesLastWriteModelWrongFalsely : Prop := fnHasFactorMatchesLastWriteModelRow.holds Try.pinned (OpenSpec.ofChange fnHasFactorMatchesLastWriteModelWrong)

/-- 'zzlaws_internal_model_b1.FnHasFactorNeverMatchesNaN': WHATEVER THE INPUT: true; the input reads as it did. -/
def fnHasFactorNeverMatchesNaNSpec : ChangeSpec := { name := "fnHasFactorNeverMatchesNaN", fn := fun _ => fun
  | [d1, d2, d3] => { results := [.lit (.bool true)], args := [d1, d2, d3] }
  | _ => none }
def fnHasFactorNeverMatchesNaNRow : OpenClaim := { program := "qxb6600641a", sum := "eed0a349807c299b2b189c002bc9f580953b4107f1b6262cfc3c5354bbf366c2", func := "example.com/keelson/keelson/zzlaws_internal_model_b1.FnHasFactorNeverMatchesNaN", spec := "fnHasFactorNeverMatchesNaN", apart := false }
def FnHasFactorNeverMatchesNaNSaid : Prop := fnHasFactorNeverMatchesNaNRow.holds Try.pinned (OpenSpec.ofChange fnHasFactorNeverMatchesNaNSpec)

/-- ITS FALSE NEIGHBOUR: 'it returns false'. Refute it at one input. -/
def fnHasFactorNeverMatchesNaNWrong : ChangeSpec := { name := "fnHasFactorNeverMatchesNaN", fn := fun _ => fun
  | [d1, d2, d3] => { results := [.lit (.bool false)], args := [d1, d2, d3] }
  | _ => none }
def FnHasFactorNeverMatchesNaNWrongFalsely : Prop := fnHasFactorNeverMatchesNaNRow.holds Try.pinned (OpenSpec.ofChange fnHasFactorNeverMatchesNaNWrong)

/-- 'zzlaws_internal_model_b1.FnHasFactorFreshEntry': WHATEVER THE INPUT: true; the input reads as it did. -/
def fnHasFactorFreshEntrySpec : ChangeSpec := { name := "fnHasFactorFreshEntry", fn := fun _ => fun
  | [d1, d2, d3, d4, d5] => { results := [.lit (.bool true)], args := [d1, d2, d3, d4, d5] }
  | _ => none }
def fnHasFactorFreshEntryRow : OpenClaim := { program := "qxb6600641a", sum := "eed0a349807c299b2b189c002bc9f580953b4107f1b6262cfc3c5354bbf366c2", func := "example.com/keelson/keelson/zzlaws_internal_model_b1.FnHasFactorFreshEntry", spec := "fnHasFactorFreshEntry", apart := false }
def FnHasFactorFreshEntrySaid : Prop := fnHasFactorFreshEntryRow.holds Try.pinned (OpenSpec.ofChange fnHasFactorFreshEntrySpec)

/-- ITS FALSE NEIGHBOUR: 'it returns false'. Refute it at one input. -/
def fnHasFactorFreshEntryWrong : ChangeSpec := { name := "fnHasFactorFreshEntry", fn := fun _ => fun
  | [d1, d2, d3, d4, d5] => { results := [.lit (.bool false)], args := [d1, d2, d3, d4, d5] }
  | _ => none }
def FnHasFactorFreshEntryWrongFalsely : Prop := fnHasFactorFreshEntryRow.holds Try.pinned (OpenSpec.ofChange fnHasFactorFreshEntryWrong)

end Rows
end Go.Proofs.Qxb6600641a
