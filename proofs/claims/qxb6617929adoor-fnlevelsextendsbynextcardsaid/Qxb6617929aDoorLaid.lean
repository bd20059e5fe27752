/-
  WHAT THE ROWS' CONDITION 'laid' GIVES THE WALKS (the table of powers of ten), AND A WORLD THAT MEETS IT (the heap that the door's own run leaves).
-/
import Derived.Test.Qxb6617929aDoorRows
import Derived.Test.Qxb6617929aDoorShelf
import Derived.ProofKit
import Derived.LaidMore
import Derived.OpenShut
import Derived.ShutString
import Derived.Lib.LaidTab
import Derived.Stop.Joined
import Derived.Stop.LaidErr
namespace Go.Proofs.Qxb6617929aDoor
open Go.ChangeShapes Go.WideShapes Go.ChangeAt Go.RowKit

theorem own : ownKnob Tryd.prog.godebug = none := by kernel_rfl
theorem Tryd.cells32 : Tryd.prog.cellsOf 32 = 1 := by kernel_rfl
theorem Tryd.cells40 : Tryd.prog.cellsOf 40 = 20 := by kernel_rfl
theorem Tryd.gtype0 : (Tryd.prog.globals[0]?).map (·.type) = some 40 := by kernel_rfl

/-- The door's own heap meets the condition. -/
theorem door_met (os : Os) (args : Array Value) : laidMetH Tryd.prog Rows.fnLevelsSuffixIndependentOfNameRow.laid ((World.doorLaid Tryd.prog 400 os).forCall (fun _ _ => 0) ⟨#[], args, []⟩).memory :=
  laidMetH_of_parts3 (fuel := 8) (laidMet_of_run' 8 (by kernel_rfl) (by kernel_rfl)) (by kernel_rfl) (by kernel_rfl)

theorem laid_same : Rows.fnLevelsExtendsByNextRow.laid = Rows.fnLevelsSuffixIndependentOfNameRow.laid := rfl
theorem tab_datum : (Rows.laid_internal_strconv_uint64pow10 : DataW Unit) = Lib.tabData .u64 Lib.pow10Tab := by kernel_rfl

theorem tab_of_laid {W : World} (h : laidMetH Tryd.prog Rows.fnLevelsSuffixIndependentOfNameRow.laid W) : Tab W := by
  rw [MakeChecks.laidMetH_plain _ _ _ (by kernel_rfl)] at h
  have h1 := (laidMet.tail (laidMet.tail h))
  rw [tab_datum] at h1
  have h2 := Lib.tabIs_of_head (g := 0) (by kernel_rfl) Tryd.gtype0 Tryd.underlying40 Tryd.underlying32 Tryd.cells32 Tryd.cells40 h1
  unfold Lib.TabIs World.var? at h2
  rw [show Tryd.prog.globalNamed _ = some 0 from by kernel_rfl] at h2
  exact h2
end Go.Proofs.Qxb6617929aDoor
