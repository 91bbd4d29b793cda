/-
  No cell of these rows narrows 'for every input' (looked for: loops, veiled, ifaces, maps, wideKeys, modest, calm, conditions, laid).
  DERIVED. THE GIVEN ROWS OF THIS SEAT. 3 by the template 'for every input the law returns true; each argument reads behind the call as it read before'; 0 by the template 'total and deterministic' (their statements: Qxb6001143aTotals.lean).
  GIVEN WITH THE SEED: the statements are not yours to turn. If you find one false, say at which input.
  Laid BY PROGRAM, IN A SANDBOX (cutbox-rows.mjs): the forced cells as the released guide's own fill.sh prints them over the translation e19898fc4d9b3122… (all of the seat's roots in one cut). By AI agents, Wed Nov 11 2026. No macro, syntax, notation, axiom, sorry.
-/
import Derived.Test.Qxb6001143aChecked
import GoSem.Claim
import GoSem.ClaimJoined
import GoSem.ClaimMapViews
import Derived.JoinedTies
import Derived.KernelRfl
namespace Go.Proofs.Qxb6001143a
/- THE CELL 'sum', in the pinned program and in every row, IS THE sha256 OF THE DUMP (.gsa) THAT Qxb6001143aProg.lean LOADS. Nothing in Lean hashes anything: it is a label: what it is worth is what the hold of that sum in a sandbox is worth. -/
noncomputable def Try.pinned : Pinned := { name := "qxb6001143a", sum := "e19898fc4d9b31226f197daab040a97d178206f3e853c71dbb5d872126179f76", checked := Try.checked }
namespace Rows
def none {H : Type} : Left H := { results := [], args := [] }

/-- 'zzlaws_root_b1.FnNeedsActionRefusesPaddingAndCase': WHATEVER THE INPUT: true; the input reads as it did. -/
def fnNeedsActionRefusesPaddingAndCaseSpec : ChangeSpec := { name := "fnNeedsActionRefusesPaddingAndCase", fn := fun _ => fun
  | [d1, d2, d3] => { results := [.lit (.bool true)], args := [d1, d2, d3] }
  | _ => none }
def fnNeedsActionRefusesPaddingAndCaseRow : OpenClaim := { program := "qxb6001143a", sum := "e19898fc4d9b31226f197daab040a97d178206f3e853c71dbb5d872126179f76", func := "example.com/tuoguan/tuoguan/zzlaws_root_b1.FnNeedsActionRefusesPaddingAndCase", spec := "fnNeedsActionRefusesPaddingAndCase", apart := false }
def FnNeedsActionRefusesPaddingAndCaseSaid : Prop := fnNeedsActionRefusesPaddingAndCaseRow.holds Try.pinned (OpenSpec.ofChange fnNeedsActionRefusesPaddingAndCaseSpec)

/-- ITS FALSE NEIGHBOUR: 'it returns false'. Refute it at one input. -/
def fnNeedsActionRefusesPaddingAndCaseWrong : ChangeSpec := { name := "fnNeedsActionRefusesPaddingAndCase", fn := fun _ => fun
  | [d1, d2, d3] => { results := [.lit (.bool false)], args := [d1, d2, d3] }
  | _ => none }
def FnNeedsActionRefusesPaddingAndCaseWrongFalsely : Prop := fnNeedsActionRefusesPaddingAndCaseRow.holds Try.pinned (OpenSpec.ofChange fnNeedsActionRefusesPaddingAndCaseWrong)

/-- 'zzlaws_root_b1.FnOfAgreesWithAssocList': WHATEVER THE INPUT: true; the input reads as it did. -/
def fnOfAgreesWithAssocListSpec : ChangeSpec := { name := "fnOfAgreesWithAssocList", fn := fun _ => fun
  | [d1, d2, d3] => { results := [.lit (.bool true)], args := [d1, d2, d3] }
  | _ => none }
def fnOfAgreesWithAssocListRow : OpenClaim := { program := "qxb6001143a", sum := "e19898fc4d9b31226f197daab040a97d178206f3e853c71dbb5d872126179f76", func := "example.com/tuoguan/tuoguan/zzlaws_root_b1.FnOfAgreesWithAssocList", spec := "fnOfAgreesWithAssocList", apart := false }
def FnOfAgreesWithAssocListSaid : Prop := fnOfAgreesWithAssocListRow.holds Try.pinned (OpenSpec.ofChange fnOfAgreesWithAssocListSpec)

/-- ITS FALSE NEIGHBOUR: 'it returns false'. Refute it at one input. -/
def fnOfAgreesWithAssocListWrong : ChangeSpec := { name := "fnOfAgreesWithAssocList", fn := fun _ => fun
  | [d1, d2, d3] => { results := [.lit (.bool false)], args := [d1, d2, d3] }
  | _ => none }
def FnOfAgreesWithAssocListWrongFalsely : Prop := fnOfAgreesWithAssocListRow.holds Try.pinned (OpenSpec.ofChange fnOfAgreesWithAssocListWrong)

/-- 'zzlaws_root_b1.FnOfUpdateTouchesOnlyItsSecurity': WHATEVER THE INPUT: true; the input reads as it did. -/
def fnOfUpdateTouchesOnlyItsSecuritySpec : ChangeSpec := { name := "fnOfUpdateTouchesOnlyItsSecurity", fn := fun _ => fun
  | [d1, d2, d3, d4, d5] => { results := [.lit (.bool true)], args := [d1, d2, d3, d4, d5] }
  | _ => none }
def fnOfUpdateTouchesOnlyItsSecurityRow : OpenClaim := { program := "qxb6001143a", sum := "e19898fc4d9b31226f197daab040a97d178206f3e853c71dbb5d872126179f76", func := "example.com/tuoguan/tuoguan/zzlaws_root_b1.FnOfUpdateTouchesOnlyItsSecurity", spec := "fnOfUpdateTouchesOnlyItsSecurity", apart := false }
def FnOfUpdateTouchesOnlyItsSecuritySaid : Prop := fnOfUpdateTouchesOnlyItsSecurityRow.holds Try.pinned (OpenSpec.ofChange fnOfUpdateTouchesOnlyItsSecuritySpec)

/-- ITS FALSE NEIGHBOUR: 'it returns false'. Refute it at one input. -/
def fnOfUpdateTouchesOnlyItsSecurityWrong : ChangeSpec := { name := "fnOfUpdateTouchesOnlyItsSecurity", fn := fun _ => fun
  | [d1, d2, d3, d4, d5] => { results := [.lit (.bool false)], args := [d1, d2, d3, d4, d5] }
  | _ => none }
def FnOfUpdateTouchesOnlyItsSecurityWrongFalsely : Prop := fnOfUpdateTouchesOnlyItsSecurityRow.holds Try.pinned (OpenSpec.ofChange fnOfUpdateTouchesOnlyItsSecurityWrong)

end Rows
end Go.Proofs.Qxb6001143a
