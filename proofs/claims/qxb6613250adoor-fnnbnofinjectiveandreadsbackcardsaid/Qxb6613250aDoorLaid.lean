/-
  What the rows' condition on the listed variables gives the walks; the door's own heap meets it.
-/
import Derived.Test.Qxb6613250aDoorNbn
import Derived.ProofKit
import Derived.LaidMore
import Derived.Stop.Joined
import Derived.Stop.LaidErr
import Derived.Lib.LaidTab
namespace Go.Proofs.Qxb6613250aDoor
open Go.ChangeShapes Go.WideShapes Go.ChangeAt Go.RowKit

theorem own : ownKnob Tryd.prog.godebug = none := by kernel_rfl

/-- The rows' list: the two tables of math/bits and the powers of ten. -/
abbrev laid3 : List (String × DataW Unit) := Rows.fnNbnOfAppendsLastDigitRow.laid

theorem gTab : Tryd.prog.globalNamed tabName = some 0 := by kernel_rfl
theorem tTab : (Tryd.prog.globals[0]?).map (·.type) = some 37 := by kernel_rfl
theorem cells37 : Tryd.prog.cellsOf 37 = 20 := by kernel_rfl
theorem cells22 : Tryd.prog.cellsOf 22 = 1 := by kernel_rfl

theorem tab_of_laid {W : World} (h : laidMetH Tryd.prog laid3 W) : Lib.TabIs Tryd.prog W tabName .u64 Lib.pow10Tab := by
  rw [MakeChecks.laidMetH_plain _ _ _ (by kernel_rfl)] at h
  have h3 : laidMet Tryd.prog [(tabName, Lib.tabData .u64 Lib.pow10Tab)] W := h.tail.tail
  exact Lib.tabIs_of_head gTab tTab Tryd.underlying37 Tryd.underlying22 cells22 cells37 h3

theorem door_met (os : Os) (args : Array Value) : laidMetH Tryd.prog laid3 ((World.doorLaid Tryd.prog 24 os).forCall (fun _ _ => 0) ⟨#[], args, []⟩).memory :=
  laidMetH_of_parts3 (fuel := 8) (laidMet_of_run' 8 (by kernel_rfl) (by kernel_rfl)) (by kernel_rfl) (by kernel_rfl)

end Go.Proofs.Qxb6613250aDoor
