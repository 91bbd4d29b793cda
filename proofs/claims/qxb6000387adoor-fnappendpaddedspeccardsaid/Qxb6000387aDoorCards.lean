/-
  DERIVED. GIVEN WITH THE SEED: THE CARDS: each row of Qxb6000387aDoorRows.lean that lists a variable, with what it lists TIED to the program's text (the seventh form; the later family's looks); each row that meets fmt, with fmt's text TOLD by the authors' own Lean function (tested against real Go, not proved from fmt's source: count such statements apart). THE CARD IS WHAT COUNTS. Prove the row's statement (the work); the ties are given (Qxb6000387aDoorTie.lean); close each card by the builder's one call (the guide's Derived/Test/ToyasCard.lean, 'card_holds'). Laid BY PROGRAM, IN A SANDBOX (cutbox-door.mjs). By AI agents, Wed Nov 11 2026. No macro, syntax, notation, axiom, sorry.
-/
import Derived.Test.Qxb6000387aDoorRows
import GoSem.ClaimSeven
namespace Go.Proofs.Qxb6000387aDoor
namespace Rows

/-- THE TIED CARD OF 'zzlaws_internal_cachegen_b1.FnAppendPaddedSpec'. -/
def fnAppendPaddedSpecCard : Claim7 := { stood := { row := fnAppendPaddedSpecRow, standIns := [], harness := (true, "f5d1a3835d2045a1e5242e9bb178db1a1731be9cc468ccc5a947ee7702e8e41f"), looks := false }, kinds := [], alts := [], laidByText := true, laidKinds := [.data, .data, .data], laidTests := true, laidLooks := .later }
def FnAppendPaddedSpecCardSaid : Prop := Claim7.holds Tryd.pinned (.plain (OpenSpec.ofChange fnAppendPaddedSpecSpec)) fnAppendPaddedSpecCard

/-- THE TIED CARD OF 'zzlaws_internal_cachegen_b1.FnAppendPaddedOrderMatchesNumbers'. -/
def fnAppendPaddedOrderMatchesNumbersCard : Claim7 := { stood := { row := fnAppendPaddedOrderMatchesNumbersRow, standIns := [], harness := (true, "f5d1a3835d2045a1e5242e9bb178db1a1731be9cc468ccc5a947ee7702e8e41f"), looks := false }, kinds := [], alts := [], laidByText := true, laidKinds := [.data, .data, .data], laidTests := true, laidLooks := .later }
def FnAppendPaddedOrderMatchesNumbersCardSaid : Prop := Claim7.holds Tryd.pinned (.plain (OpenSpec.ofChange fnAppendPaddedOrderMatchesNumbersSpec)) fnAppendPaddedOrderMatchesNumbersCard
end Rows
end Go.Proofs.Qxb6000387aDoor
