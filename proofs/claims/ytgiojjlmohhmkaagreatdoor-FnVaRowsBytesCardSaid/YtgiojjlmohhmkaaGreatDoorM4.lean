/-
  FnVaRowsBytes returns true for every input, and its arguments read behind the call as they did before: the tied card. Conditions: the listed package-level variables start as the program's text lays them (the card ties them to the text); the form's own reach.
-/
import Derived.Test.YtgiojjlmohhmkaaGreatDoorCards
import Derived.Test.YtgiojjlmohhmkaaGreatDoorTie
import Derived.Test.YtgiojjlmohhmkaaGreatDoorM3
import Derived.Test.YtgiojjlmohhmkaaGreatDoorM5
import Derived.SevenTiedAt
namespace Go.Proofs.YtgiojjlmohhmkaaGreatDoor
open Go.ChangeShapes Go.WideShapes Go.ChangeAt Go.WideElems Go.RowKit

/-- The tied card. -/
theorem fnVaRowsBytes_card : Rows.FnVaRowsBytesCardSaid :=
  Claim7.holds_tied_plain_at (p := Tryz.pinned) .later [] [.data, .data, .data, .data, .data, .data, .data, .pinned] true (true, "fb556be738a9e35960d425ab519db0d88729fed77a7ace5b9cacc74fb24cb9bc") true
    over4 (fun _ h => by cases h) rb_wf (fun _ h => by cases h) fnVaRowsBytes_row_tie rfl ⟨rfl, rfl⟩ rb_main rfl
    (fun f fn hf hfn => by
      obtain rfl : f = 4 := Option.some.inj (rb_named.symm.trans hf) |>.symm
      obtain rfl : fn = Tryz.f4 := (Option.some.inj (Tryz.func4.symm.trans hfn)).symm
      exact ⟨rb_looks, fun j t ht => by
        rw [Tryz.params4] at ht
        have hm : t ∈ [22, 23] := by simpa using Array.mem_of_getElem? ht
        exact (show Tryz.prog.wantsStandIn t = false by simpa using List.all_eq_true.1 rb_standIn t hm)⟩)
    rb_goes
#print axioms fnVaRowsBytes_card
end Go.Proofs.YtgiojjlmohhmkaaGreatDoor
