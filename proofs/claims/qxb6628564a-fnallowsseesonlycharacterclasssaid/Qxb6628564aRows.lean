/-
  No cell of these rows narrows 'for every input' (looked for: loops, veiled, ifaces, maps, wideKeys, modest, calm, conditions, laid).
  DERIVED. THE GIVEN ROWS OF THIS SEAT. 2 by the template 'for every input the law returns true; each argument reads behind the call as it read before'; 0 by the template 'total and deterministic' (their statements: Qxb6628564aTotals.lean).
  GIVEN WITH THE SEED: the statements are not yours to turn. If you find one false, say at which input.
  Laid BY PROGRAM, IN A SANDBOX (cutbox-rows.mjs): the forced cells as the released guide's own fill.sh prints them over the translation ddc8cab298a0df76… (all of the seat's roots in one cut). By AI agents, Wed Nov 11 2026. No macro, syntax, notation, axiom, sorry.
-/
import Derived.Test.Qxb6628564aChecked
import GoSem.Claim
import GoSem.ClaimJoined
import GoSem.ClaimMapViews
import Derived.JoinedTies
import Derived.KernelRfl
namespace Go.Proofs.Qxb6628564a
/- THE CELL 'sum', in the pinned program and in every row, IS THE sha256 OF THE DUMP (.gsa) THAT Qxb6628564aProg.lean LOADS. Nothing in Lean hashes anything: it is a label: what it is worth is what the hold of that sum in a sandbox is worth. -/
noncomputable def Try.pinned : Pinned := { name := "qxb6628564a", sum := "ddc8cab298a0df76a97a82d87cdb059671994970157e0d32b95358d79e7df7ee", checked := Try.checked }
namespace Rows
def none {H : Type} : Left H := { results := [], args := [] }

/-- 'zzlaws_internal_record_b1.FnAllowsSeesOnlyCharacterClass': WHATEVER THE INPUT: true; the input reads as it did. -/
def fnAllowsSeesOnlyCharacterClassSpec : ChangeSpec := { name := "fnAllowsSeesOnlyCharacterClass", fn := fun _ => fun
  | [d1, d2, d3] => { results := [.lit (.bool true)], args := [d1, d2, d3] }
  | _ => none }
def fnAllowsSeesOnlyCharacterClassRow : OpenClaim := { program := "qxb6628564a", sum := "ddc8cab298a0df76a97a82d87cdb059671994970157e0d32b95358d79e7df7ee", func := "example.com/bundlewire/bundlewire/zzlaws_internal_record_b1.FnAllowsSeesOnlyCharacterClass", spec := "fnAllowsSeesOnlyCharacterClass", apart := false }
def FnAllowsSeesOnlyCharacterClassSaid : Prop := fnAllowsSeesOnlyCharacterClassRow.holds Try.pinned (OpenSpec.ofChange fnAllowsSeesOnlyCharacterClassSpec)

/-- ITS FALSE NEIGHBOUR: 'it returns false'. Refute it at one input. -/
def fnAllowsSeesOnlyCharacterClassWrong : ChangeSpec := { name := "fnAllowsSeesOnlyCharacterClass", fn := fun _ => fun
  | [d1, d2, d3] => { results := [.lit (.bool false)], args := [d1, d2, d3] }
  | _ => none }
def FnAllowsSeesOnlyCharacterClassWrongFalsely : Prop := fnAllowsSeesOnlyCharacterClassRow.holds Try.pinned (OpenSpec.ofChange fnAllowsSeesOnlyCharacterClassWrong)

/-- 'zzlaws_internal_record_b1.FnAllowsAgreesWithSisterTypes': WHATEVER THE INPUT: true; the input reads as it did. -/
def fnAllowsAgreesWithSisterTypesSpec : ChangeSpec := { name := "fnAllowsAgreesWithSisterTypes", fn := fun _ => fun
  | [d1, d2] => { results := [.lit (.bool true)], args := [d1, d2] }
  | _ => none }
def fnAllowsAgreesWithSisterTypesRow : OpenClaim := { program := "qxb6628564a", sum := "ddc8cab298a0df76a97a82d87cdb059671994970157e0d32b95358d79e7df7ee", func := "example.com/bundlewire/bundlewire/zzlaws_internal_record_b1.FnAllowsAgreesWithSisterTypes", spec := "fnAllowsAgreesWithSisterTypes", apart := false }
def FnAllowsAgreesWithSisterTypesSaid : Prop := fnAllowsAgreesWithSisterTypesRow.holds Try.pinned (OpenSpec.ofChange fnAllowsAgreesWithSisterTypesSpec)

/-- ITS FALSE NEIGHBOUR: 'it returns false'. Refute it at one input. -/
def fnAllowsAgreesWithSisterTypesWrong : ChangeSpec := { name := "fnAllowsAgreesWithSisterTypes", fn := fun _ => fun
  | [d1, d2] => { results := [.lit (.bool false)], args := [d1, d2] }
  | _ => none }
def FnAllowsAgreesWithSisterTypesWrongFalsely : Prop := fnAllowsAgreesWithSisterTypesRow.holds Try.pinned (OpenSpec.ofChange fnAllowsAgreesWithSisterTypesWrong)

end Rows
end Go.Proofs.Qxb6628564a
