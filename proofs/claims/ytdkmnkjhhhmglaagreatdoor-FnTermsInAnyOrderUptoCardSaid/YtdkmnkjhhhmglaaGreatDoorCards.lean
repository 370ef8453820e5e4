/-
  DERIVED. GIVEN WITH THE SEED: THE CARDS: each row of YtdkmnkjhhhmglaaGreatDoorRows.lean that lists a variable, with what it lists TIED to the program's text (the seventh form; the later family's looks); each row that meets fmt, with fmt's text TOLD by the authors' own Lean function (tested against real Go, not proved from fmt's source: count such statements apart). THE CARD IS WHAT COUNTS. Prove the row's statement (the work); the ties are given (YtdkmnkjhhhmglaaGreatDoorTie.lean); close each card by the builder's one call (the guide's Derived/Test/ToyasCard.lean, 'card_holds'). Laid BY PROGRAM, IN A SANDBOX (cutbox-door.mjs). By AI agents, Wed Nov 11 2026. No macro, syntax, notation, axiom, sorry.
-/
import Derived.Test.YtdkmnkjhhhmglaaGreatDoorRows
import GoSem.ClaimSeven
namespace Go.Proofs.YtdkmnkjhhhmglaaGreatDoor
namespace Rows

/-- THE TIED CARD OF 'laws.FnAnyAddsNothing'. -/
def fnAnyAddsNothingCard : Claim7 := { stood := { row := fnAnyAddsNothingRow, standIns := [], harness := (true, "c7ff622561d50f8eacdbef536e39a693a52003dedf02a79550db99ce29b1981c"), looks := true }, kinds := [], alts := [], laidByText := true, laidKinds := [.data, .data, .data, .data, .pinned, .pinned, .pinned], laidTests := true, laidLooks := .later }
def FnAnyAddsNothingCardSaid : Prop := Claim7.holds Tryz.pinned (.plain (OpenSpec.ofChange fnAnyAddsNothingSpec)) fnAnyAddsNothingCard

/-- THE TIED CARD OF 'laws.FnTermsInAnyOrder'. -/
def fnTermsInAnyOrderCard : Claim7 := { stood := { row := fnTermsInAnyOrderRow, standIns := [], harness := (true, "c7ff622561d50f8eacdbef536e39a693a52003dedf02a79550db99ce29b1981c"), looks := true }, kinds := [], alts := [], laidByText := true, laidKinds := [.data, .data, .data, .data, .pinned, .pinned, .pinned], laidTests := true, laidLooks := .later }
def FnTermsInAnyOrderCardSaid : Prop := Claim7.holds Tryz.pinned (.plain (OpenSpec.ofChange fnTermsInAnyOrderSpec)) fnTermsInAnyOrderCard

/-- THE TIED CARD OF 'laws.FnEmpty'. -/
def fnEmptyCard : Claim7 := { stood := { row := fnEmptyRow, standIns := [], harness := (true, "c7ff622561d50f8eacdbef536e39a693a52003dedf02a79550db99ce29b1981c"), looks := true }, kinds := [], alts := [], laidByText := true, laidKinds := [.data, .data, .data, .data, .pinned, .pinned, .pinned], laidTests := true, laidLooks := .later }
def FnEmptyCardSaid : Prop := Claim7.holds Tryz.pinned (.plain (OpenSpec.ofChange fnEmptySpec)) fnEmptyCard

/-- THE SECOND FORM's CARD OF 'laws.FnAnyAddsNothing'. -/
def fnAnyAddsNothingUptoCard : Claim7 := { stood := { row := fnAnyAddsNothingUptoRow, standIns := [], harness := (true, "c7ff622561d50f8eacdbef536e39a693a52003dedf02a79550db99ce29b1981c"), looks := true }, kinds := [], alts := [], laidByText := true, laidKinds := [.data, .data, .data, .data, .pinned, .pinned, .pinned], laidTests := true, laidLooks := .later }
def FnAnyAddsNothingUptoCardSaid : Prop := Claim7.holds Tryz.pinned (.plain (OpenSpec.upto fnAnyAddsNothingSpec)) fnAnyAddsNothingUptoCard

/-- THE SECOND FORM's CARD OF 'laws.FnTermsInAnyOrder'. -/
def fnTermsInAnyOrderUptoCard : Claim7 := { stood := { row := fnTermsInAnyOrderUptoRow, standIns := [], harness := (true, "c7ff622561d50f8eacdbef536e39a693a52003dedf02a79550db99ce29b1981c"), looks := true }, kinds := [], alts := [], laidByText := true, laidKinds := [.data, .data, .data, .data, .pinned, .pinned, .pinned], laidTests := true, laidLooks := .later }
def FnTermsInAnyOrderUptoCardSaid : Prop := Claim7.holds Tryz.pinned (.plain (OpenSpec.upto fnTermsInAnyOrderSpec)) fnTermsInAnyOrderUptoCard

/-- THE SECOND FORM's CARD OF 'laws.FnEmpty'. -/
def fnEmptyUptoCard : Claim7 := { stood := { row := fnEmptyUptoRow, standIns := [], harness := (true, "c7ff622561d50f8eacdbef536e39a693a52003dedf02a79550db99ce29b1981c"), looks := true }, kinds := [], alts := [], laidByText := true, laidKinds := [.data, .data, .data, .data, .pinned, .pinned, .pinned], laidTests := true, laidLooks := .later }
def FnEmptyUptoCardSaid : Prop := Claim7.holds Tryz.pinned (.plain (OpenSpec.upto fnEmptySpec)) fnEmptyUptoCard
end Rows
end Go.Proofs.YtdkmnkjhhhmglaaGreatDoor
