/-
  DERIVED. GIVEN WITH THE SEED: THE CARDS: each row of Qxb6628612aDoorRows.lean that lists a variable, with what it lists TIED to the program's text (the seventh form; the later family's looks); each row that meets fmt, with fmt's text TOLD by the authors' own Lean function (tested against real Go, not proved from fmt's source: count such statements apart). THE CARD IS WHAT COUNTS. Prove the row's statement (the work); the ties are given (Qxb6628612aDoorTie.lean); close each card by the builder's one call (the guide's Derived/Test/ToyasCard.lean, 'card_holds'). Laid BY PROGRAM, IN A SANDBOX (cutbox-door.mjs). By AI agents, Wed Nov 11 2026. No macro, syntax, notation, axiom, sorry.
-/
import Derived.Test.Qxb6628612aDoorRows
import GoSem.ClaimSeven
namespace Go.Proofs.Qxb6628612aDoor
namespace Rows

/-- THE TIED CARD OF 'zzlaws_internal_value_b1.FnStringMatchesReadBack'. -/
def fnStringMatchesReadBackCard : Claim7 := { stood := { row := fnStringMatchesReadBackRow, standIns := [], harness := (true, "a0acf77fbded3f5cb336f432d95ccc05869676986d5c703d4fc171fa9ae5b49d"), looks := false }, kinds := [], alts := [], laidByText := true, laidKinds := [.data, .data, .data], laidTests := true, laidLooks := .later }
def FnStringMatchesReadBackCardSaid : Prop := Claim7.holds Tryd.pinned (.plain (OpenSpec.ofChange fnStringMatchesReadBackSpec)) fnStringMatchesReadBackCard

/-- THE TIED CARD OF 'zzlaws_internal_value_b1.FnStringInjective'. -/
def fnStringInjectiveCard : Claim7 := { stood := { row := fnStringInjectiveRow, standIns := [], harness := (true, "a0acf77fbded3f5cb336f432d95ccc05869676986d5c703d4fc171fa9ae5b49d"), looks := false }, kinds := [], alts := [], laidByText := true, laidKinds := [.data, .data, .data], laidTests := true, laidLooks := .later }
def FnStringInjectiveCardSaid : Prop := Claim7.holds Tryd.pinned (.plain (OpenSpec.ofChange fnStringInjectiveSpec)) fnStringInjectiveCard
end Rows
end Go.Proofs.Qxb6628612aDoor
