/-
  FnVaRowsOf returns true for every input: the row's statement. Condition: the listed package-level variables read as the program's text lays them.
-/
import Derived.Test.YtgiojjlmohhmkaaGreatDoorG2
namespace Go.Proofs.YtgiojjlmohhmkaaGreatDoor
open Go.ChangeShapes Go.WideShapes Go.ChangeAt Go.WideElems Go.RowKit

theorem of_inst : Tryz.f3.isInstance Tryz.prog Rows.fnVaRowsOfRow.origin Rows.fnVaRowsOfRow.targs :=
  of_decide_eq_true (by kernel_rfl)
theorem of_wrap : Tryz.f3.isWrapper Tryz.prog Rows.fnVaRowsOfRow.wrapper Rows.fnVaRowsOfRow.mainSum := by
  unfold Func.isWrapper
  first | (rw [if_pos (by decide +kernel)]; kernel_rfl) | (rw [if_neg (by decide +kernel)]; exact ⟨rfl, rfl⟩)

theorem over : Rows.FnVaRowsOfSaid :=
  OpenClaim.holds_of_wide (p := Tryz.pinned) 3 Tryz.f3 rfl rfl rfl rfl rfl rfl rfl ⟨rfl, rfl, rfl, rfl, rfl⟩ rfl rfl rfl rfl rfl of_named Tryz.func3 of_closed of_inst of_wrap
    (fun os started H enc _ => lifted os started H enc)
end Go.Proofs.YtgiojjlmohhmkaaGreatDoor
