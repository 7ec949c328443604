/-
  FnVaRowsOf returns true for every input, and its arguments read behind the call as they did before: the tied card. Conditions: the listed package-level variables start as the program's text lays them (the card ties them to the text); the form's own reach.
-/
import Derived.Test.YtgiojjlmohhmkaaGreatDoorCards
import Derived.Test.YtgiojjlmohhmkaaGreatDoorTie
import Derived.Test.YtgiojjlmohhmkaaGreatDoorG3
import Derived.Test.YtgiojjlmohhmkaaGreatDoorG5
import Derived.SevenTiedAt
namespace Go.Proofs.YtgiojjlmohhmkaaGreatDoor
open Go.ChangeShapes Go.WideShapes Go.ChangeAt Go.WideElems Go.RowKit

/-- The tied card. -/
theorem fnVaRowsOf_card : Rows.FnVaRowsOfCardSaid :=
  Claim7.holds_tied_plain_at (p := Tryz.pinned) .later [] [.data, .data, .data, .data, .data, .data] true (true, "fb556be738a9e35960d425ab519db0d88729fed77a7ace5b9cacc74fb24cb9bc") true
    over (fun _ h => by cases h) of_wf (fun _ h => by cases h) fnVaRowsOf_row_tie rfl ⟨rfl, rfl⟩ is_main rfl
    (fun f fn hf hfn => by
      obtain rfl : f = 3 := Option.some.inj (of_named.symm.trans hf) |>.symm
      obtain rfl : fn = Tryz.f3 := (Option.some.inj (Tryz.func3.symm.trans hfn)).symm
      exact ⟨looks_all, fun j t ht => by
        rw [Tryz.params3] at ht
        have hm : t ∈ [22, 23, 22] := by simpa using Array.mem_of_getElem? ht
        exact (show Tryz.prog.wantsStandIn t = false by simpa using List.all_eq_true.1 no_standIn t hm)⟩)
    of_goes
#print axioms fnVaRowsOf_card
end Go.Proofs.YtgiojjlmohhmkaaGreatDoor
