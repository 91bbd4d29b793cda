/-
  What the row's list gives the walks, and a start that fits.
-/
import Derived.Test.Qxb6000387aDoorCmp
import Derived.ProofKit
import Derived.LaidMore
import Derived.Lib.LaidTab
import Derived.Stop.LaidErr
import Derived.Stop.Joined
namespace Go.Proofs.Qxb6000387aDoor
open Go.ChangeShapes Go.WideShapes Go.ChangeAt Go.RowKit

theorem Tryd.own : ownKnob Tryd.prog.godebug = none := by kernel_rfl
theorem Tryd.laidOut : laidOutB Tryd.prog = true := by kernel_rfl

theorem powData : (Rows.laid_internal_strconv_uint64pow10 : DataW Unit) = Lib.tabData .u64 Lib.pow10Tab := by kernel_rfl

theorem gPowT : (Tryd.prog.globals[0]?).map (·.type) = some 42 := by kernel_rfl
theorem gDb : Tryd.prog.globalNamed (Rows.fnAppendPaddedSpecRow.named.getD 2 "") = some 2 := by kernel_rfl
theorem gDbT : (Tryd.prog.globals[2]?).map (·.type) = some 50 := by kernel_rfl
theorem Tryd.cells23 : Tryd.prog.cellsOf 23 = 1 := by kernel_rfl
theorem Tryd.cells42 : Tryd.prog.cellsOf 42 = 20 := by kernel_rfl
theorem Tryd.cells5 : Tryd.prog.cellsOf 5 = 1 := by kernel_rfl
theorem Tryd.cells50 : Tryd.prog.cellsOf 50 = 64 := by kernel_rfl

theorem dbData : (Rows.laid_math_bits_deBruijn64tab : DataW Unit) = Lib.tabData .u8 (Lib.deBruijn64tab.map fun x : Nat => (x : Int)) := by kernel_rfl

theorem tabs_of_laid {W : World} (h : laidMetH Tryd.prog Rows.fnAppendPaddedSpecRow.laid W) : Tabs W := by
  rw [MakeChecks.laidMetH_plain _ _ _ (by kernel_rfl)] at h
  have h2 : laidMet Tryd.prog [(Rows.fnAppendPaddedSpecRow.named.headD "", Lib.tabData .u64 Lib.pow10Tab)] W := by
    rw [← powData]
    exact laidMet.tail (laidMet.tail h)
  have h3 : laidMet Tryd.prog ((Rows.fnAppendPaddedSpecRow.named.getD 2 "", Lib.tabData .u8 (Lib.deBruijn64tab.map fun x : Nat => (x : Int))) :: [(Rows.fnAppendPaddedSpecRow.named.headD "", Rows.laid_internal_strconv_uint64pow10)]) W := by
    rw [← dbData]
    exact laidMet.tail h
  have t1 : PowTab W := Lib.tabIs_of_head gPow gPowT Tryd.underlying42 Tryd.underlying23 Tryd.cells23 Tryd.cells42 h2
  have t2 := Lib.tabIs_of_head gDb gDbT Tryd.underlying50 Tryd.underlying5 Tryd.cells5 Tryd.cells50 h3
  have t3 : TabAt 2 Lib.deBruijn64tab W := fun j hj => by
    have := t2.cell gDb j (by simpa using hj)
    rw [this]
    simp [hj]
  refine ⟨t1, t3, ?_⟩
  have := t3 0 (by decide)
  unfold World.cell? at this
  by_cases hlt : 2 < W.heap.size
  · exact hlt
  · simp [Array.getElem?_eq_none (Nat.le_of_not_lt hlt)] at this

theorem door_met (os : Os) (args : Array Value) : laidMetH Tryd.prog Rows.fnAppendPaddedSpecRow.laid ((World.doorLaid Tryd.prog 400 os).forCall (fun _ _ => 0) ⟨#[], args, []⟩).memory :=
  laidMetH_of_parts3 (fuel := 8) (laidMet_of_run' 8 (by kernel_rfl) (by kernel_rfl)) (by kernel_rfl) (by kernel_rfl)

end Go.Proofs.Qxb6000387aDoor
