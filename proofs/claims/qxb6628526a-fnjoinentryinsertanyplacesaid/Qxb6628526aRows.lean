/-
  No cell of these rows narrows 'for every input' (looked for: loops, veiled, ifaces, maps, wideKeys, modest, calm, conditions, laid).
  DERIVED. THE GIVEN ROWS OF THIS SEAT. 2 by the template 'for every input the law returns true; each argument reads behind the call as it read before'; 0 by the template 'total and deterministic' (their statements: Qxb6628526aTotals.lean).
  GIVEN WITH THE SEED: the statements are not yours to turn. If you find one false, say at which input.
  Laid BY PROGRAM, IN A SANDBOX (cutbox-rows.mjs): the forced cells as the released guide's own fill.sh prints them over the translation a9264209de228935… (all of the seat's roots in one cut). By AI agents, Wed Nov 11 2026. No macro, syntax, notation, axiom, sorry.
-/
import Derived.Test.Qxb6628526aChecked
import GoSem.Claim
import GoSem.ClaimJoined
import GoSem.ClaimMapViews
import Derived.JoinedTies
import Derived.KernelRfl
namespace Go.Proofs.Qxb6628526a
/- THE CELL 'sum', in the pinned program and in every row, IS THE sha256 OF THE DUMP (.gsa) THAT Qxb6628526aProg.lean LOADS. Nothing in Lean hashes anything: it is a label: what it is worth is what the hold of that sum in a sandbox is worth. -/
noncomputable def Try.pinned : Pinned := { name := "qxb6628526a", sum := "a9264209de22893559657508eb6ad123da0b9dcfa2b6b7faa090597e58778ea8", checked := Try.checked }
namespace Rows
def none {H : Type} : Left H := { results := [], args := [] }

/-- 'zzlaws_internal_lockstate_b1.FnJoinEntryInsertAnyPlace': WHATEVER THE INPUT: true; the input reads as it did. -/
def fnJoinEntryInsertAnyPlaceSpec : ChangeSpec := { name := "fnJoinEntryInsertAnyPlace", fn := fun _ => fun
  | [d1, d2, d3] => { results := [.lit (.bool true)], args := [d1, d2, d3] }
  | _ => none }
def fnJoinEntryInsertAnyPlaceRow : OpenClaim := { program := "qxb6628526a", sum := "a9264209de22893559657508eb6ad123da0b9dcfa2b6b7faa090597e58778ea8", func := "example.com/maynard/maynard/zzlaws_internal_lockstate_b1.FnJoinEntryInsertAnyPlace", spec := "fnJoinEntryInsertAnyPlace", apart := false }
def FnJoinEntryInsertAnyPlaceSaid : Prop := fnJoinEntryInsertAnyPlaceRow.holds Try.pinned (OpenSpec.ofChange fnJoinEntryInsertAnyPlaceSpec)

/-- ITS FALSE NEIGHBOUR: 'it returns false'. Refute it at one input. -/
def fnJoinEntryInsertAnyPlaceWrong : ChangeSpec := { name := "fnJoinEntryInsertAnyPlace", fn := fun _ => fun
  | [d1, d2, d3] => { results := [.lit (.bool false)], args := [d1, d2, d3] }
  | _ => none }
def FnJoinEntryInsertAnyPlaceWrongFalsely : Prop := fnJoinEntryInsertAnyPlaceRow.holds Try.pinned (OpenSpec.ofChange fnJoinEntryInsertAnyPlaceWrong)

/-- 'zzlaws_internal_lockstate_b1.FnJoinEntryPrefixExactlyWhenCommandsPrefix': WHATEVER THE INPUT: true; the input reads as it did. -/
def fnJoinEntryPrefixExactlyWhenCommandsPrefixSpec : ChangeSpec := { name := "fnJoinEntryPrefixExactlyWhenCommandsPrefix", fn := fun _ => fun
  | [d1, d2] => { results := [.lit (.bool true)], args := [d1, d2] }
  | _ => none }
def fnJoinEntryPrefixExactlyWhenCommandsPrefixRow : OpenClaim := { program := "qxb6628526a", sum := "a9264209de22893559657508eb6ad123da0b9dcfa2b6b7faa090597e58778ea8", func := "example.com/maynard/maynard/zzlaws_internal_lockstate_b1.FnJoinEntryPrefixExactlyWhenCommandsPrefix", spec := "fnJoinEntryPrefixExactlyWhenCommandsPrefix", apart := false }
def FnJoinEntryPrefixExactlyWhenCommandsPrefixSaid : Prop := fnJoinEntryPrefixExactlyWhenCommandsPrefixRow.holds Try.pinned (OpenSpec.ofChange fnJoinEntryPrefixExactlyWhenCommandsPrefixSpec)

/-- ITS FALSE NEIGHBOUR: 'it returns false'. Refute it at one input. -/
def fnJoinEntryPrefixExactlyWhenCommandsPrefixWrong : ChangeSpec := { name := "fnJoinEntryPrefixExactlyWhenCommandsPrefix", fn := fun _ => fun
  | [d1, d2] => { results := [.lit (.bool false)], args := [d1, d2] }
  | _ => none }
def FnJoinEntryPrefixExactlyWhenCommandsPrefixWrongFalsely : Prop := fnJoinEntryPrefixExactlyWhenCommandsPrefixRow.holds Try.pinned (OpenSpec.ofChange fnJoinEntryPrefixExactlyWhenCommandsPrefixWrong)

end Rows
end Go.Proofs.Qxb6628526a
