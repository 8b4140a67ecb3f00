/-
  What the rows' list of tables gives the walks; a start that fits.
-/
import Derived.Test.Qxb6630879aDoorShelf
import Derived.ProofKit
import Derived.LaidMore
import Derived.OpenShut
import Derived.Stop.Joined
import Derived.MakeChecks
import Derived.Stop.LaidErr
import Derived.Lib.LaidTab
namespace Go.Proofs.Qxb6630879aDoor
open Go.RowKit

/-- The list of both rows. -/
def laid3 : List (String × DataW Unit) := Rows.fnAppendOrdersAsTheAmountsRow.laid
theorem own : ownKnob Tryd.prog.godebug = none := by kernel_rfl
theorem laidOut : laidOutB Tryd.prog = true := by kernel_rfl

theorem pow_of_laid {W : World} (h : laidMetH Tryd.prog laid3 W) : Pow W := by
  rw [MakeChecks.laidMetH_plain _ _ _ (by kernel_rfl)] at h
  exact Lib.tabIs_of_head (zs := Lib.pow10Tab) (g := 0) (t := 39) (e := 26) (n := 20) (by kernel_rfl) (by kernel_rfl) (by kernel_rfl) (by kernel_rfl) (by kernel_rfl) (by kernel_rfl) (show laidMet Tryd.prog ((powName, Lib.tabData .u64 Lib.pow10Tab) :: []) W from h.tail.tail)

/-- The door's own heap meets the condition. -/
theorem door_met (os : Os) (args : Array Value) : laidMetH Tryd.prog laid3 ((World.doorLaid Tryd.prog 400 os).forCall (fun _ _ => 0) ⟨#[], args, []⟩).memory :=
  laidMetH_of_parts3 (fuel := 8) (laidMet_of_run' 8 (by kernel_rfl) (by kernel_rfl)) (by kernel_rfl) (by kernel_rfl)
end Go.Proofs.Qxb6630879aDoor
