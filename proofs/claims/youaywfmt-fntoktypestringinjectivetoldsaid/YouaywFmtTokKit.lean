/-
  WHAT BOTH ROWS SHARE: closed facts on the program; from the condition 'laid' to the table's cells; a start that meets the condition; the closing of a way that returns true and writes nothing.
-/
import Derived.Test.YouaywFmtRows
import Derived.Test.YouaywFmtTie
import Derived.Test.YouaywFmtCards
import Derived.Test.YouaywFmtTokWalks
import Derived.ProofKit
import Derived.Stop.JoinedTold
import Derived.LaidMore
import Derived.OpenVars
import Derived.WalkSmall
import Derived.Lib.LaidTab
import Derived.Deep.DeepWitnessRef
namespace Go.Proofs.YouaywFmt
open Go.ChangeShapes Go.WideShapes Go.ChangeAt Go.RowKit
open Go.Extern.Stop Go.Stop Go.Extern Tok

theorem Uayg.own : ownKnob Uayg.prog.godebug = none := by kernel_rfl
theorem Uayg.laidOut : laidOutB Uayg.prog = true := by kernel_rfl
theorem Uayg.stopsAre : Uayg.pinned.checked.prog.stops = Rows.fnTokTypeStringTableRow.stops := by kernel_rfl
theorem Uayg.stopKnobs : Uayg.pinned.checked.prog.stopKnobs = [] := by kernel_rfl
theorem Uayg.quiet (os : Os) : Stop.quiet Uayg.pinned.checked.prog os := by
  intro k hk
  rw [Uayg.stopKnobs] at hk
  cases hk
/-- The one listed variable's name. -/
def varName : String := Rows.fnTokTypeStringTableSpec.vars.headD ""
theorem gTab : Uayg.prog.globalNamed varName = some 0 := by kernel_rfl
theorem tTab : (Uayg.prog.globals[0]?).map (·.type) = some 29 := by kernel_rfl
theorem Uayg.cells5 : Uayg.prog.cellsOf 5 = 1 := by kernel_rfl
theorem Uayg.cells29 : Uayg.prog.cellsOf 29 = 32 := by kernel_rfl

/-- FROM THE CONDITION TO THE WALKS' FACT. -/
theorem cells_of_laid {W : World} (h : laidMetH Uayg.prog Rows.fnTokTypeStringTableRow.laid W) : TabCells W := by
  have h1 : laidMet Uayg.prog [(varName, Lib.tabData .u8 tab)] W := h
  have h2 := Lib.tabIs_of_head gTab tTab Uayg.underlying29 Uayg.underlying5 Uayg.cells5 Uayg.cells29 h1
  intro j hj
  have h3 := h2.cell gTab j (by simpa [tab] using hj)
  rw [h3, tab_at ⟨j, hj⟩]

/-- The heap that the door's own run leaves meets the condition. -/
theorem door_met (os : Os) (args : Array Value) : laidMetH Uayg.prog Rows.fnTokTypeStringTableRow.laid ((World.doorLaid Uayg.prog 14 os).forCall (fun _ _ => 0) ⟨#[], args, []⟩).memory :=
  laidMetH_of_parts3 (fuel := 8) (laidMet_of_run' 8 (by kernel_rfl) (by kernel_rfl)) (by kernel_rfl) (by kernel_rfl)

end Go.Proofs.YouaywFmt
