import Derived.Test.Qxb6617989aDoorLaw1Walk
import Derived.Test.Qxb6617989aDoorCards
import Derived.Test.Qxb6617989aDoorTie
import Derived.ProofKit
import Derived.LaidMore
import Derived.OpenShut
import Derived.Stop.Joined
import Derived.Stop.LaidErr
import Derived.Lib.LaidTab
import Derived.ChangeOld
import Derived.SevenTiedAt
namespace Go.Proofs.Qxb6617989aDoor
open Go.ChangeShapes Go.WideShapes Go.ChangeAt Go.RowKit

theorem own : ownKnob Tryd.prog.godebug = none := by kernel_rfl
theorem laidOut : laidOutB Tryd.prog = true := by kernel_rfl

/-- The list that both rows bear. -/
def laid3 : List (String × DataW Unit) := Rows.fnAppendExponentReadsBackAndIgnoresHeldZerosRow.laid

theorem gTab : Tryd.prog.globalNamed tabName = some 0 := by kernel_rfl
theorem tTab : (Tryd.prog.globals[0]?).map (·.type) = some 43 := by kernel_rfl
theorem cells34 : Tryd.prog.cellsOf 34 = 1 := by kernel_rfl
theorem cells43 : Tryd.prog.cellsOf 43 = 20 := by kernel_rfl
theorem laid3_eq : laid3 = [laid3.headD (tabName, .nil), (laid3.tail).headD (tabName, .nil), (tabName, Lib.tabData .u64 Lib.pow10Tab)] := by kernel_rfl
theorem laid3_plain : (laid3.all fun x => x.2.handleName?.isNone) = true := by kernel_rfl

theorem tab_of_laid {W : World} (h : laidMetH Tryd.prog laid3 W) : Tab W := by
  rw [MakeChecks.laidMetH_plain _ _ _ laid3_plain, laid3_eq] at h
  exact Lib.tabIs_of_head gTab tTab Tryd.underlying43 Tryd.underlying34 cells34 cells43 h.tail.tail

/-- The door's own heap meets the condition. -/
theorem door_met (os : Os) (args : Array Value) : laidMetH Tryd.prog laid3 ((World.doorLaid Tryd.prog 24 os).forCall (fun _ _ => 0) ⟨#[], args, []⟩).memory :=
  laidMetH_of_parts3 (fuel := 8) (laidMet_of_run' 8 (by kernel_rfl) (by kernel_rfl)) (by kernel_rfl) (by kernel_rfl)
end Go.Proofs.Qxb6617989aDoor
