/-
  WHAT THE ROWS' LISTED TABLES GIVE THE WALKS; a world that meets the condition (the witness): shared by this seat's rows.
-/
import Derived.Test.Qxb6600155aDoorWalks
import Derived.ProofKit
import Derived.LaidMore
import Derived.LaidSub
import Derived.OpenShut
import Derived.Stop.Joined
namespace Go.Proofs.Qxb6600155aDoor
open Go.ChangeShapes Go.WideShapes Go.ChangeAt Go.RowKit

theorem own : ownKnob Tryd.prog.godebug = none := by kernel_rfl
theorem laidOut : laidOutB Tryd.prog = true := by kernel_rfl
/-- The list of tables, one for all rows of the seat. -/
abbrev laid3 : List (String × DataW Unit) := Rows.fnOutcomeStringInjectiveRow.laid
theorem gPow : Tryd.prog.globalNamed pow10Name = some 0 := by kernel_rfl
theorem tPow : (Tryd.prog.globals[0]?).map (·.type) = some 42 := by kernel_rfl
theorem cells34 : Tryd.prog.cellsOf 34 = 1 := by kernel_rfl
theorem cells42 : Tryd.prog.cellsOf 42 = 20 := by kernel_rfl

theorem tab_of_laid {W : World} (h : laidMetH Tryd.prog laid3 W) : Tab W := by
  have h1 := laidMetH.filter (fun x => x.1 == pow10Name) h
  have e : (List.filter (fun x : String × DataW Unit => x.1 == pow10Name) laid3) = [(pow10Name, Lib.tabData .u64 Lib.pow10Tab)] := by kernel_rfl
  rw [e, MakeChecks.laidMetH_plain _ _ _ (by kernel_rfl)] at h1
  exact Lib.tabIs_of_head gPow tPow Tryd.underlying42 Tryd.underlying34 cells34 cells42 h1

/-- The door's own heap meets the condition. -/
theorem door_met (os : Os) (args : Array Value) : laidMetH Tryd.prog laid3 ((World.doorLaid Tryd.prog 100 os).forCall (fun _ _ => 0) ⟨#[], args, []⟩).memory :=
  laidMetH_of_parts3 (fuel := 8) (laidMet_of_run' 8 (by kernel_rfl) (by kernel_rfl)) (by kernel_rfl) (by kernel_rfl)
end Go.Proofs.Qxb6600155aDoor
