/-
  FnVaRowsBytes returns true for every input: the row's statement. Condition: the listed package-level variables read as the program's text lays them.
-/
import Derived.Test.YtgiojjlmohhmkaaGreatDoorM1
import Derived.Test.YtgiojjlmohhmkaaGreatDoorM2
namespace Go.Proofs.YtgiojjlmohhmkaaGreatDoor
open Go.ChangeShapes Go.WideShapes Go.ChangeAt Go.WideElems Go.RowKit

theorem rb_inst : Tryz.f4.isInstance Tryz.prog Rows.fnVaRowsBytesRow.origin Rows.fnVaRowsBytesRow.targs :=
  of_decide_eq_true (by kernel_rfl)
theorem rb_wrap : Tryz.f4.isWrapper Tryz.prog Rows.fnVaRowsBytesRow.wrapper Rows.fnVaRowsBytesRow.mainSum := by
  unfold Func.isWrapper
  first | (rw [if_pos (by decide +kernel)]; kernel_rfl) | (rw [if_neg (by decide +kernel)]; exact ⟨rfl, rfl⟩)

theorem over4 : Rows.FnVaRowsBytesSaid :=
  OpenClaim.holds_of_wide (p := Tryz.pinned) 4 Tryz.f4 rfl rfl rfl rfl rfl rfl rfl ⟨rfl, rfl, rfl, rfl, rfl⟩ rfl rfl rfl rfl rfl rb_named Tryz.func4 rb_closed rb_inst rb_wrap
    (fun os started H enc _ => lifted4 os started H enc)
end Go.Proofs.YtgiojjlmohhmkaaGreatDoor
