/-
  Closed facts of the tied card of FnVaRowsOf.
-/
import Derived.Test.YtgiojjlmohhmkaaGreatDoorRows
import Derived.SevenTiedAt
namespace Go.Proofs.YtgiojjlmohhmkaaGreatDoor
open Go

theorem of_wf : Rows.fnVaRowsOfRow.wfByText (OpenSpec.ofChange Rows.fnVaRowsOfSpec) = true := by kernel_rfl
theorem is_main : Tryz.prog.mainIs = some (true, ("fb556be738a9e35960d425ab519db0d88729fed77a7ace5b9cacc74fb24cb9bc" : String).toList) := by kernel_rfl
theorem looks_all : true = Tryz.prog.looks [] := by kernel_rfl
theorem of_goes : false = Rows.fnVaRowsOfRow.goesBy Tryz.prog := by kernel_rfl
theorem no_standIn : ([22, 23, 22].all fun u => !Tryz.prog.wantsStandIn u) = true := by kernel_rfl
end Go.Proofs.YtgiojjlmohhmkaaGreatDoor
