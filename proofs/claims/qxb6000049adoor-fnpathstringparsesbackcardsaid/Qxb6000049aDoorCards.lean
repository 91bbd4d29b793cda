/-
  DERIVED. GIVEN WITH THE SEED: THE CARDS: each row of Qxb6000049aDoorRows.lean that lists a variable, with what it lists TIED to the program's text (the seventh form; the later family's looks); each row that meets fmt, with fmt's text TOLD by the authors' own Lean function (tested against real Go, not proved from fmt's source: count such statements apart). THE CARD IS WHAT COUNTS. Prove the row's statement (the work); the ties are given (Qxb6000049aDoorTie.lean); close each card by the builder's one call (the guide's Derived/Test/ToyasCard.lean, 'card_holds'). Laid BY PROGRAM, IN A SANDBOX (cutbox-door.mjs). By AI agents, Wed Nov 11 2026. No macro, syntax, notation, axiom, sorry.
-/
import Derived.Test.Qxb6000049aDoorRows
import GoSem.ClaimSeven
namespace Go.Proofs.Qxb6000049aDoor
namespace Rows

/-- THE TIED CARD OF 'zzlaws_internal_jsonvalue_b1.FnPathStringParsesBack'. -/
def fnPathStringParsesBackCard : Claim7 := { stood := { row := fnPathStringParsesBackRow, standIns := [], harness := (true, "e3e78d9cafc6cd255a146c346e58e6f1d1aeba4e7af3826325c93299ed0e8fe8"), looks := false }, kinds := [], alts := [], laidByText := true, laidKinds := [.data, .data, .data], laidTests := true, laidLooks := .later }
def FnPathStringParsesBackCardSaid : Prop := Claim7.holds Tryd.pinned (.plain (OpenSpec.ofChange fnPathStringParsesBackSpec)) fnPathStringParsesBackCard

/-- THE TIED CARD OF 'zzlaws_internal_jsonvalue_b1.FnPathStringPrefix'. -/
def fnPathStringPrefixCard : Claim7 := { stood := { row := fnPathStringPrefixRow, standIns := [], harness := (true, "e3e78d9cafc6cd255a146c346e58e6f1d1aeba4e7af3826325c93299ed0e8fe8"), looks := false }, kinds := [], alts := [], laidByText := true, laidKinds := [.data, .data, .data], laidTests := true, laidLooks := .later }
def FnPathStringPrefixCardSaid : Prop := Claim7.holds Tryd.pinned (.plain (OpenSpec.ofChange fnPathStringPrefixSpec)) fnPathStringPrefixCard
end Rows
end Go.Proofs.Qxb6000049aDoor
