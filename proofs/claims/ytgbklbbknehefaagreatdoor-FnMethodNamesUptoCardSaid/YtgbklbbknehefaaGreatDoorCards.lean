/-
  DERIVED. GIVEN WITH THE SEED: THE CARDS: each row of YtgbklbbknehefaaGreatDoorRows.lean that lists a variable, with what it lists TIED to the program's text (the seventh form; the later family's looks); each row that meets fmt, with fmt's text TOLD by the authors' own Lean function (tested against real Go, not proved from fmt's source: count such statements apart). THE CARD IS WHAT COUNTS. Prove the row's statement (the work); the ties are given (YtgbklbbknehefaaGreatDoorTie.lean); close each card by the builder's one call (the guide's Derived/Test/ToyasCard.lean, 'card_holds'). Laid BY PROGRAM, IN A SANDBOX (cutbox-door.mjs). By AI agents, Wed Nov 11 2026. No macro, syntax, notation, axiom, sorry.
-/
import Derived.Test.YtgbklbbknehefaaGreatDoorRows
import GoSem.ClaimSeven
namespace Go.Proofs.YtgbklbbknehefaaGreatDoor
namespace Rows

/-- THE TIED CARD OF 'laws.FnMethodNames'. -/
def fnMethodNamesCard : Claim7 := { stood := { row := fnMethodNamesRow, standIns := [], harness := (true, "e33add0b6278a0725d844832f6aed9aa3296a44e61da7deb0e83e0fd56a9947a"), looks := true }, kinds := [], alts := [], laidByText := true, laidKinds := [.data, .data, .data, .data, .pinned, .pinned, .pinned], laidTests := true, laidLooks := .later }
def FnMethodNamesCardSaid : Prop := Claim7.holds Tryz.pinned (.plain (OpenSpec.ofChange fnMethodNamesSpec)) fnMethodNamesCard

/-- THE SECOND FORM's CARD OF 'laws.FnMethodNames'. -/
def fnMethodNamesUptoCard : Claim7 := { stood := { row := fnMethodNamesUptoRow, standIns := [], harness := (true, "e33add0b6278a0725d844832f6aed9aa3296a44e61da7deb0e83e0fd56a9947a"), looks := true }, kinds := [], alts := [], laidByText := true, laidKinds := [.data, .data, .data, .data, .pinned, .pinned, .pinned], laidTests := true, laidLooks := .later }
def FnMethodNamesUptoCardSaid : Prop := Claim7.holds Tryz.pinned (.plain (OpenSpec.upto fnMethodNamesSpec)) fnMethodNamesUptoCard
end Rows
end Go.Proofs.YtgbklbbknehefaaGreatDoor
