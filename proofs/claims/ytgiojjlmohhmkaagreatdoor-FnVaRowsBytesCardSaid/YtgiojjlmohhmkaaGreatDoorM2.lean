/-
  FnVaRowsBytes returns true for every input: the row's statement, and its tied card. Condition: the listed package-level variables read as the program's text lays them (the card ties that to the text).
-/
import Derived.Test.YtgiojjlmohhmkaaGreatDoorCards
import Derived.Test.YtgiojjlmohhmkaaGreatDoorTie
import Derived.Test.YtgiojjlmohhmkaaGreatDoorRows
import Derived.SevenTiedAt
import Derived.ProofKit
import Derived.Stop.Joined
namespace Go.Proofs.YtgiojjlmohhmkaaGreatDoor
open Go

theorem rb_named : Tryz.prog.funcNamed "given.example/pub-anacrusis/laws.FnVaRowsBytes" = some 4 := by kernel_rfl
set_option maxRecDepth 100000 in
set_option maxHeartbeats 8000000 in
theorem rb_closed : joinedFacts Tryz.prog 4 Tryz.f4 Rows.fnVaRowsBytesSpec Rows.fnVaRowsBytesRow = true := by
  unfold joinedFacts
  simp only [Bool.and_eq_true]
  repeat' apply And.intro
  all_goals (as_aux_lemma => kernel_rfl)
end Go.Proofs.YtgiojjlmohhmkaaGreatDoor
