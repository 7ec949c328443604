/-
  Closed facts of the tied card of FnVaRowsBytes.
-/
import Derived.Test.YtgiojjlmohhmkaaGreatDoorRows
import Derived.SevenTiedAt
namespace Go.Proofs.YtgiojjlmohhmkaaGreatDoor
open Go

/-- Where no function of the program starts a goroutine, no call does. -/
theorem goesBy_none {P : Program} (h : P.funcs.any Func.goes = false) (c : OpenClaim) : c.goesBy P = false := by
  have h0 : ∀ f, P.goes f = false := by
    intro f
    unfold Program.goes
    rw [h, Bool.and_false, Bool.or_false, List.any_eq_false]
    intro g _ hg
    obtain ⟨F, hF, hG⟩ := Option.any_eq_true _ _ |>.1 hg
    have h1 := Array.any_eq_false'.1 h F (Array.mem_of_getElem? hF)
    exact h1 hG
  have e : P.goes = fun _ => false := funext h0
  have e1 : ∀ o : Option FuncId, o.any P.goes = false := fun o => by cases o <;> simp [e]
  unfold OpenClaim.goesBy Program.goesAt Program.goesFrom
  rw [e1, Bool.false_or]
  cases c.start <;> simp [e]

theorem rb_wf : Rows.fnVaRowsBytesRow.wfByText (OpenSpec.ofChange Rows.fnVaRowsBytesSpec) = true := by kernel_rfl
theorem rb_main : Tryz.prog.mainIs = some (true, ("fb556be738a9e35960d425ab519db0d88729fed77a7ace5b9cacc74fb24cb9bc" : String).toList) := by kernel_rfl
theorem rb_looks : true = Tryz.prog.looks [] := by kernel_rfl
theorem rb_none : Tryz.prog.funcs.any Func.goes = false := by kernel_rfl
theorem rb_goes : false = Rows.fnVaRowsBytesRow.goesBy Tryz.prog := (goesBy_none rb_none _).symm
theorem rb_standIn : ([22, 23].all fun u => !Tryz.prog.wantsStandIn u) = true := by kernel_rfl
end Go.Proofs.YtgiojjlmohhmkaaGreatDoor
