/-
  DERIVED. GIVEN WITH THE SEED: THE CARDS: each row of YtkfaiocajcjomaaGreatDoorRows.lean that lists a variable, with what it lists TIED to the program's text (the seventh form; the later family's looks); each row that meets fmt, with fmt's text TOLD by the authors' own Lean function (tested against real Go, not proved from fmt's source: count such statements apart). THE CARD IS WHAT COUNTS. Prove the row's statement (the work); the ties are given (YtkfaiocajcjomaaGreatDoorTie.lean); close each card by the builder's one call (the guide's Derived/Test/ToyasCard.lean, 'card_holds'). Laid BY PROGRAM, IN A SANDBOX (cutbox-door.mjs). By AI agents, Wed Nov 11 2026. No macro, syntax, notation, axiom, sorry.
-/
import Derived.Test.YtkfaiocajcjomaaGreatDoorRows
import GoSem.ClaimSeven
namespace Go.Proofs.YtkfaiocajcjomaaGreatDoor
namespace Rows

/-- THE TIED CARD OF 'laws.FnIsMethodSet'. -/
def fnIsMethodSetCard : Claim7 := { stood := { row := fnIsMethodSetRow, standIns := [], harness := (true, "9ec96a9cf9f88c9428b650ef9ec549f511de86dc554b4f7a3392ceb87e2e9f30"), looks := true }, kinds := [], alts := [], laidByText := true, laidKinds := [.data, .data, .data, .data, .pinned, .pinned, .pinned], laidTests := true, laidLooks := .later }
def FnIsMethodSetCardSaid : Prop := Claim7.holds Tryz.pinned (.plain (OpenSpec.ofChange fnIsMethodSetSpec)) fnIsMethodSetCard

/-- THE TIED CARD OF 'laws.FnComparable'. -/
def fnComparableCard : Claim7 := { stood := { row := fnComparableRow, standIns := [], harness := (true, "9ec96a9cf9f88c9428b650ef9ec549f511de86dc554b4f7a3392ceb87e2e9f30"), looks := true }, kinds := [], alts := [], laidByText := true, laidKinds := [.data, .data, .data, .data, .pinned, .pinned, .pinned], laidTests := true, laidLooks := .later }
def FnComparableCardSaid : Prop := Claim7.holds Tryz.pinned (.plain (OpenSpec.ofChange fnComparableSpec)) fnComparableCard

/-- THE SECOND FORM's CARD OF 'laws.FnIsMethodSet'. -/
def fnIsMethodSetUptoCard : Claim7 := { stood := { row := fnIsMethodSetUptoRow, standIns := [], harness := (true, "9ec96a9cf9f88c9428b650ef9ec549f511de86dc554b4f7a3392ceb87e2e9f30"), looks := true }, kinds := [], alts := [], laidByText := true, laidKinds := [.data, .data, .data, .data, .pinned, .pinned, .pinned], laidTests := true, laidLooks := .later }
def FnIsMethodSetUptoCardSaid : Prop := Claim7.holds Tryz.pinned (.plain (OpenSpec.upto fnIsMethodSetSpec)) fnIsMethodSetUptoCard

/-- THE SECOND FORM's CARD OF 'laws.FnComparable'. -/
def fnComparableUptoCard : Claim7 := { stood := { row := fnComparableUptoRow, standIns := [], harness := (true, "9ec96a9cf9f88c9428b650ef9ec549f511de86dc554b4f7a3392ceb87e2e9f30"), looks := true }, kinds := [], alts := [], laidByText := true, laidKinds := [.data, .data, .data, .data, .pinned, .pinned, .pinned], laidTests := true, laidLooks := .later }
def FnComparableUptoCardSaid : Prop := Claim7.holds Tryz.pinned (.plain (OpenSpec.upto fnComparableSpec)) fnComparableUptoCard
end Rows
end Go.Proofs.YtkfaiocajcjomaaGreatDoor
