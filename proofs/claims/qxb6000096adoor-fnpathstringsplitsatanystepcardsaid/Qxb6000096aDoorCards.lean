/-
  DERIVED. GIVEN WITH THE SEED: THE CARDS: each row of Qxb6000096aDoorRows.lean that lists a variable, with what it lists TIED to the program's text (the seventh form; the later family's looks); each row that meets fmt, with fmt's text TOLD by the authors' own Lean function (tested against real Go, not proved from fmt's source: count such statements apart). THE CARD IS WHAT COUNTS. Prove the row's statement (the work); the ties are given (Qxb6000096aDoorTie.lean); close each card by the builder's one call (the guide's Derived/Test/ToyasCard.lean, 'card_holds'). Laid BY PROGRAM, IN A SANDBOX (cutbox-door.mjs). By AI agents, Wed Nov 11 2026. No macro, syntax, notation, axiom, sorry.
-/
import Derived.Test.Qxb6000096aDoorRows
import GoSem.ClaimSeven
namespace Go.Proofs.Qxb6000096aDoor
namespace Rows

/-- THE TIED CARD OF 'zzlaws_internal_jsonvalue_b1.FnPathStringSplitsAtAnyStep'. -/
def fnPathStringSplitsAtAnyStepCard : Claim7 := { stood := { row := fnPathStringSplitsAtAnyStepRow, standIns := [], harness := (true, "5f94e0622627f3c93d8e166628d8e326aa0012eaa6b2c26698153f9a7f9730b5"), looks := false }, kinds := [], alts := [], laidByText := true, laidKinds := [.data, .data, .data], laidTests := true, laidLooks := .later }
def FnPathStringSplitsAtAnyStepCardSaid : Prop := Claim7.holds Tryd.pinned (.plain (OpenSpec.ofChange fnPathStringSplitsAtAnyStepSpec)) fnPathStringSplitsAtAnyStepCard

/-- THE TIED CARD OF 'zzlaws_internal_jsonvalue_b1.FnPathStringOneStep'. -/
def fnPathStringOneStepCard : Claim7 := { stood := { row := fnPathStringOneStepRow, standIns := [], harness := (true, "5f94e0622627f3c93d8e166628d8e326aa0012eaa6b2c26698153f9a7f9730b5"), looks := false }, kinds := [], alts := [], laidByText := true, laidKinds := [.data, .data, .data], laidTests := true, laidLooks := .later }
def FnPathStringOneStepCardSaid : Prop := Claim7.holds Tryd.pinned (.plain (OpenSpec.ofChange fnPathStringOneStepSpec)) fnPathStringOneStepCard
end Rows
end Go.Proofs.Qxb6000096aDoor
