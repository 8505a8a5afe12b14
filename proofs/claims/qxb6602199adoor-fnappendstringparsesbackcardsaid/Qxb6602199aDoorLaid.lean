/-
  OUT OF THE ROWS' CONDITION ON THE LISTED TABLES: what the walks ask ('Tab'); and that the door's own heap meets the condition.
-/
import Derived.Test.Qxb6602199aDoorRows
import Derived.Test.Qxb6602199aDoorAppends
import Derived.ProofKit
import Derived.LaidMore
import Derived.OpenShut
import Derived.Stop.Joined
import Derived.Stop.LaidErr
import Derived.Lib.LaidTab
namespace Go.Proofs.Qxb6602199aDoor
open Go.ChangeShapes Go.WideShapes Go.ChangeAt Go.RowKit

theorem own : ownKnob Tryd.prog.godebug = none := by kernel_rfl
theorem laidOut : laidOutB Tryd.prog = true := by kernel_rfl
theorem gPow : Tryd.prog.globalNamed tabName = some 0 := by kernel_rfl
theorem tPow : (Tryd.prog.globals[0]?).map (·.type) = some 42 := by kernel_rfl

/-- The three listed tables (the same list in each row). -/
def laid3 : List (String × DataW Unit) := Rows.fnAppendIntOrderRow.laid

/-- The door's own heap meets the condition. -/
theorem door_met (os : Os) (args : Array Value) : laidMetH Tryd.prog laid3 ((World.doorLaid Tryd.prog 24 os).forCall (fun _ _ => 0) ⟨#[], args, []⟩).memory :=
  laidMetH_of_parts3 (fuel := 8) (laidMet_of_run' 8 (by kernel_rfl) (by kernel_rfl)) (by kernel_rfl) (by kernel_rfl)

theorem tab_of_laid {W : World} (h : laidMetH Tryd.prog laid3 W) : Tab W.heap.size W := by
  rw [MakeChecks.laidMetH_plain _ _ _ (by kernel_rfl)] at h
  have h2 : laidMet Tryd.prog [(tabName, Lib.tabData .u64 Lib.pow10Tab)] W := by
    have e : laid3 = [laid3.getD 0 (tabName, .nil), laid3.getD 1 (tabName, .nil), (tabName, Lib.tabData .u64 Lib.pow10Tab)] := by kernel_rfl
    rw [e] at h
    exact h.tail.tail
  exact Lib.tabBelow_of_tabIs (Lib.tabIs_of_head gPow tPow Tryd.underlying42 Tryd.underlying30 (by kernel_rfl) (by kernel_rfl) h2)
end Go.Proofs.Qxb6602199aDoor
