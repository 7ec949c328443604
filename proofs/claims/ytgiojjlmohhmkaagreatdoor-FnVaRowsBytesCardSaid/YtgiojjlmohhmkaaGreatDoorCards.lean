/-
  DERIVED. GIVEN WITH THE SEED: THE CARDS: each row of YtgiojjlmohhmkaaGreatDoorRows.lean that lists a variable, with what it lists TIED to the program's text (the seventh form; the later family's looks); each row that meets fmt, with fmt's text TOLD by the authors' own Lean function (tested against real Go, not proved from fmt's source: count such statements apart). THE CARD IS WHAT COUNTS. Prove the row's statement (the work); the ties are given (YtgiojjlmohhmkaaGreatDoorTie.lean); close each card by the builder's one call (the guide's Derived/Test/ToyasCard.lean, 'card_holds'). Laid BY PROGRAM, IN A SANDBOX (cutbox-door.mjs). By AI agents, Wed Nov 11 2026. No macro, syntax, notation, axiom, sorry.
-/
import Derived.Test.YtgiojjlmohhmkaaGreatDoorRows
import GoSem.ClaimSeven
namespace Go.Proofs.YtgiojjlmohhmkaaGreatDoor
namespace Rows

/-- THE TIED CARD OF 'laws.FnVaRowsOf'. -/
def fnVaRowsOfCard : Claim7 := { stood := { row := fnVaRowsOfRow, standIns := [], harness := (true, "fb556be738a9e35960d425ab519db0d88729fed77a7ace5b9cacc74fb24cb9bc"), looks := true }, kinds := [], alts := [], laidByText := true, laidKinds := [.data, .data, .data, .data, .data, .data], laidTests := true, laidLooks := .later }
def FnVaRowsOfCardSaid : Prop := Claim7.holds Tryz.pinned (.plain (OpenSpec.ofChange fnVaRowsOfSpec)) fnVaRowsOfCard

/-- THE TIED CARD OF 'laws.FnVaRowsBytes'. -/
def fnVaRowsBytesCard : Claim7 := { stood := { row := fnVaRowsBytesRow, standIns := [], harness := (true, "fb556be738a9e35960d425ab519db0d88729fed77a7ace5b9cacc74fb24cb9bc"), looks := true }, kinds := [], alts := [], laidByText := true, laidKinds := [.data, .data, .data, .data, .data, .data, .data, .pinned], laidTests := true, laidLooks := .later }
def FnVaRowsBytesCardSaid : Prop := Claim7.holds Tryz.pinned (.plain (OpenSpec.ofChange fnVaRowsBytesSpec)) fnVaRowsBytesCard

/-- THE SECOND FORM's CARD OF 'laws.FnVaRowsOf'. -/
def fnVaRowsOfUptoCard : Claim7 := { stood := { row := fnVaRowsOfUptoRow, standIns := [], harness := (true, "fb556be738a9e35960d425ab519db0d88729fed77a7ace5b9cacc74fb24cb9bc"), looks := true }, kinds := [], alts := [], laidByText := true, laidKinds := [.data, .data, .data, .data, .data, .data], laidTests := true, laidLooks := .later }
def FnVaRowsOfUptoCardSaid : Prop := Claim7.holds Tryz.pinned (.plain (OpenSpec.upto fnVaRowsOfSpec)) fnVaRowsOfUptoCard

/-- THE SECOND FORM's CARD OF 'laws.FnVaRowsBytes'. -/
def fnVaRowsBytesUptoCard : Claim7 := { stood := { row := fnVaRowsBytesUptoRow, standIns := [], harness := (true, "fb556be738a9e35960d425ab519db0d88729fed77a7ace5b9cacc74fb24cb9bc"), looks := true }, kinds := [], alts := [], laidByText := true, laidKinds := [.data, .data, .data, .data, .data, .data, .data, .pinned], laidTests := true, laidLooks := .later }
def FnVaRowsBytesUptoCardSaid : Prop := Claim7.holds Tryz.pinned (.plain (OpenSpec.upto fnVaRowsBytesSpec)) fnVaRowsBytesUptoCard
end Rows
end Go.Proofs.YtgiojjlmohhmkaaGreatDoor
