/-
  No cell of these rows narrows 'for every input' (looked for: loops, veiled, ifaces, maps, wideKeys, modest, calm, conditions, laid).
  DERIVED. THE GIVEN ROWS OF THIS SEAT. 2 by the template 'for every input the law returns true; each argument reads behind the call as it read before'; 0 by the template 'total and deterministic' (their statements: Qxb6628654aTotals.lean).
  GIVEN WITH THE SEED: the statements are not yours to turn. If you find one false, say at which input.
  Laid BY PROGRAM, IN A SANDBOX (cutbox-rows.mjs): the forced cells as the released guide's own fill.sh prints them over the translation bb3571127a09052a… (all of the seat's roots in one cut). By AI agents, Wed Nov 11 2026. No macro, syntax, notation, axiom, sorry.
-/
import Derived.Test.Qxb6628654aChecked
import GoSem.Claim
import GoSem.ClaimJoined
import GoSem.ClaimMapViews
import Derived.JoinedTies
import Derived.KernelRfl
namespace Go.Proofs.Qxb6628654a
/- THE CELL 'sum', in the pinned program and in every row, IS THE sha256 OF THE DUMP (.gsa) THAT Qxb6628654aProg.lean LOADS. Nothing in Lean hashes anything: it is a label: what it is worth is what the hold of that sum in a sandbox is worth. -/
noncomputable def Try.pinned : Pinned := { name := "qxb6628654a", sum := "bb3571127a09052a5dc1b3c0007ebfe1e402d8795651565c55048f6e88b858ae", checked := Try.checked }
namespace Rows
def none {H : Type} : Left H := { results := [], args := [] }

/-- 'zzlaws_internal_jsonwire_b1.FnSinceIsTrimmedWindow': WHATEVER THE INPUT: true; the input reads as it did. -/
def fnSinceIsTrimmedWindowSpec : ChangeSpec := { name := "fnSinceIsTrimmedWindow", fn := fun _ => fun
  | [d1, d2, d3] => { results := [.lit (.bool true)], args := [d1, d2, d3] }
  | _ => none }
def fnSinceIsTrimmedWindowRow : OpenClaim := { program := "qxb6628654a", sum := "bb3571127a09052a5dc1b3c0007ebfe1e402d8795651565c55048f6e88b858ae", func := "example.com/codeswitch/codeswitch/zzlaws_internal_jsonwire_b1.FnSinceIsTrimmedWindow", spec := "fnSinceIsTrimmedWindow", apart := false }
def FnSinceIsTrimmedWindowSaid : Prop := fnSinceIsTrimmedWindowRow.holds Try.pinned (OpenSpec.ofChange fnSinceIsTrimmedWindowSpec)

/-- ITS FALSE NEIGHBOUR: 'it returns false'. Refute it at one input. -/
def fnSinceIsTrimmedWindowWrong : ChangeSpec := { name := "fnSinceIsTrimmedWindow", fn := fun _ => fun
  | [d1, d2, d3] => { results := [.lit (.bool false)], args := [d1, d2, d3] }
  | _ => none }
def FnSinceIsTrimmedWindowWrongFalsely : Prop := fnSinceIsTrimmedWindowRow.holds Try.pinned (OpenSpec.ofChange fnSinceIsTrimmedWindowWrong)

/-- 'zzlaws_internal_jsonwire_b1.FnSinceCutAtAnyPoint': WHATEVER THE INPUT: true; the input reads as it did. -/
def fnSinceCutAtAnyPointSpec : ChangeSpec := { name := "fnSinceCutAtAnyPoint", fn := fun _ => fun
  | [d1, d2, d3, d4] => { results := [.lit (.bool true)], args := [d1, d2, d3, d4] }
  | _ => none }
def fnSinceCutAtAnyPointRow : OpenClaim := { program := "qxb6628654a", sum := "bb3571127a09052a5dc1b3c0007ebfe1e402d8795651565c55048f6e88b858ae", func := "example.com/codeswitch/codeswitch/zzlaws_internal_jsonwire_b1.FnSinceCutAtAnyPoint", spec := "fnSinceCutAtAnyPoint", apart := false }
def FnSinceCutAtAnyPointSaid : Prop := fnSinceCutAtAnyPointRow.holds Try.pinned (OpenSpec.ofChange fnSinceCutAtAnyPointSpec)

/-- ITS FALSE NEIGHBOUR: 'it returns false'. Refute it at one input. -/
def fnSinceCutAtAnyPointWrong : ChangeSpec := { name := "fnSinceCutAtAnyPoint", fn := fun _ => fun
  | [d1, d2, d3, d4] => { results := [.lit (.bool false)], args := [d1, d2, d3, d4] }
  | _ => none }
def FnSinceCutAtAnyPointWrongFalsely : Prop := fnSinceCutAtAnyPointRow.holds Try.pinned (OpenSpec.ofChange fnSinceCutAtAnyPointWrong)

end Rows
end Go.Proofs.Qxb6628654a
