/-
  Closed facts of the tied card of FnVaRowsBytes.
-/
import Derived.Test.YtgiojjlmohhmkaaGreatDoorRows
import Derived.SevenTiedAt
namespace Go.Proofs.YtgiojjlmohhmkaaGreatDoor
open Go

theorem rb_wf : Rows.fnVaRowsBytesRow.wfByText (OpenSpec.ofChange Rows.fnVaRowsBytesSpec) = true := by kernel_rfl
theorem rb_main : Tryz.prog.mainIs = some (true, ("fb556be738a9e35960d425ab519db0d88729fed77a7ace5b9cacc74fb24cb9bc" : String).toList) := by kernel_rfl
theorem rb_looks : true = Tryz.prog.looks [] := by kernel_rfl
theorem rb_goes : false = Rows.fnVaRowsBytesRow.goesBy Tryz.prog := by kernel_rfl
theorem rb_standIn : ([22, 23].all fun u => !Tryz.prog.wantsStandIn u) = true := by kernel_rfl
end Go.Proofs.YtgiojjlmohhmkaaGreatDoor
