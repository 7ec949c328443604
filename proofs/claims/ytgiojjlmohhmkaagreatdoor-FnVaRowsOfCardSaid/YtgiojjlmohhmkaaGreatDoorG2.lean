/-
  FnVaRowsOf returns true for every input: the row's statement, and its tied card. Condition: the listed package-level variables read as the program's text lays them (the card ties that to the text).
-/
import Derived.Test.YtgiojjlmohhmkaaGreatDoorCards
import Derived.Test.YtgiojjlmohhmkaaGreatDoorTie
import Derived.Test.YtgiojjlmohhmkaaGreatDoorG1
import Derived.SevenTiedAt
namespace Go.Proofs.YtgiojjlmohhmkaaGreatDoor
open Go.ChangeShapes Go.WideShapes Go.ChangeAt Go.WideElems Go.RowKit

theorem of_named : Tryz.prog.funcNamed "given.example/pub-anacrusis/laws.FnVaRowsOf" = some 3 := by kernel_rfl
set_option maxRecDepth 100000 in
set_option maxHeartbeats 8000000 in
theorem of_closed : joinedFacts Tryz.prog 3 Tryz.f3 Rows.fnVaRowsOfSpec Rows.fnVaRowsOfRow = true := by
  unfold joinedFacts
  simp only [Bool.and_eq_true]
  repeat' apply And.intro
  all_goals (as_aux_lemma => kernel_rfl)
end Go.Proofs.YtgiojjlmohhmkaaGreatDoor
