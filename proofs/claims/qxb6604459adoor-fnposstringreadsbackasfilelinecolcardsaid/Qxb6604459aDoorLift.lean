/-
  DERIVED: WHAT BOTH ROWS OF THIS SEAT SHARE: the listed tables, the table of powers out of the row's condition, the door's own heap as the witness.
-/
import Derived.Test.Qxb6604459aDoorStr
import Derived.ProofKit
import Derived.LaidMore
import Derived.OpenShut
import Derived.Stop.Joined
import Derived.Lib.LaidTab
import Derived.Stop.LaidErr
namespace Go.Proofs.Qxb6604459aDoor
open Go.ChangeShapes Go.WideShapes Go.ChangeAt Go.RowKit
set_option maxRecDepth 100000

/-- What the rows list. -/
def laid3 : List (String × DataW Unit) := Rows.fnPosStringTellsPositionsApartRow.laid

theorem own : ownKnob Tryd.prog.godebug = none := by kernel_rfl
theorem laid3_pow : ∃ x y, laid3 = [x, y, (powName, Lib.tabData .u64 Lib.pow10Tab)] := ⟨_, _, rfl⟩
theorem tPow : (Tryd.prog.globals[0]?).map (·.type) = some 82 := by kernel_rfl

theorem tab_of_laid {W : World} (h : laidMetH Tryd.prog laid3 W) : Tab W := by
  rw [MakeChecks.laidMetH_plain _ _ _ (by kernel_rfl)] at h
  obtain ⟨x, y, e⟩ := laid3_pow
  rw [e] at h
  exact Lib.tabIs_of_head gPow tPow Tryd.underlying82 Tryd.underlying74 (by kernel_rfl) (by kernel_rfl) h.tail.tail

/-- The door's own heap meets the condition. -/
theorem door_met (os : Os) (args : Array Value) : laidMetH Tryd.prog laid3 ((World.doorLaid Tryd.prog 24 os).forCall (fun _ _ => 0) ⟨#[], args, []⟩).memory :=
  laidMetH_of_parts3 (fuel := 8) (laidMet_of_run' 8 (by kernel_rfl) (by kernel_rfl)) (by kernel_rfl) (by kernel_rfl)
end Go.Proofs.Qxb6604459aDoor
