/-
  What the row's list gives the walks, and a start that fits.
-/
import Derived.Test.Qxb6000049aDoorPath
import Derived.ProofKit
import Derived.LaidMore
import Derived.Lib.LaidTab
import Derived.Stop.LaidErr
import Derived.Stop.Joined
namespace Go.Proofs.Qxb6000049aDoor
open Go.ChangeShapes Go.WideShapes Go.ChangeAt Go.RowKit

theorem Tryd.own : ownKnob Tryd.prog.godebug = none := by kernel_rfl
theorem Tryd.laidOut : laidOutB Tryd.prog = true := by kernel_rfl

theorem powData : (Rows.laid_internal_strconv_uint64pow10 : DataW Unit) = Lib.tabData .u64 Lib.pow10Tab := by kernel_rfl

theorem gPowT : (Tryd.prog.globals[1]?).map (·.type) = some 64 := by kernel_rfl
theorem Tryd.cells57 : Tryd.prog.cellsOf 57 = 1 := by kernel_rfl
theorem Tryd.cells64 : Tryd.prog.cellsOf 64 = 20 := by kernel_rfl

theorem powTab_of_laid {W : World} (h : laidMetH Tryd.prog Rows.fnPathStringParsesBackRow.laid W) : PowTab W := by
  rw [MakeChecks.laidMetH_plain _ _ _ (by kernel_rfl)] at h
  have h2 : laidMet Tryd.prog [(Rows.fnPathStringParsesBackRow.named.headD "", Lib.tabData .u64 Lib.pow10Tab)] W := by
    rw [← powData]
    exact laidMet.tail (laidMet.tail h)
  exact Lib.tabIs_of_head gPow gPowT Tryd.underlying64 Tryd.underlying57 Tryd.cells57 Tryd.cells64 h2

theorem PowTab.size {W : World} (h : PowTab W) : 1 < W.heap.size := by
  unfold PowTab Lib.TabIs World.var? at h
  rw [gPow] at h
  by_cases hlt : 1 < W.heap.size
  · exact hlt
  · simp [Array.getElem?_eq_none (Nat.le_of_not_lt hlt)] at h

theorem door_met (os : Os) (args : Array Value) : laidMetH Tryd.prog Rows.fnPathStringParsesBackRow.laid ((World.doorLaid Tryd.prog 400 os).forCall (fun _ _ => 0) ⟨#[], args, []⟩).memory :=
  laidMetH_of_parts3 (fuel := 8) (laidMet_of_run' 8 (by kernel_rfl) (by kernel_rfl)) (by kernel_rfl) (by kernel_rfl)

end Go.Proofs.Qxb6000049aDoor
