/-
  DERIVED. GIVEN WITH THE SEED: THE CARDS: each row of YtkochlhejabdcaaGreatDoorRows.lean that lists a variable, with what it lists TIED to the program's text (the seventh form; the later family's looks); each row that meets fmt, with fmt's text TOLD by the authors' own Lean function (tested against real Go, not proved from fmt's source: count such statements apart). THE CARD IS WHAT COUNTS. Prove the row's statement (the work); the ties are given (YtkochlhejabdcaaGreatDoorTie.lean); close each card by the builder's one call (the guide's Derived/Test/ToyasCard.lean, 'card_holds'). Laid BY PROGRAM, IN A SANDBOX (cutbox-door.mjs). By AI agents, Wed Nov 11 2026. No macro, syntax, notation, axiom, sorry.
-/
import Derived.Test.YtkochlhejabdcaaGreatDoorRows
import GoSem.ClaimSeven
namespace Go.Proofs.YtkochlhejabdcaaGreatDoor
namespace Rows

/-- THE TIED CARD OF 'laws.FnEmpty'. -/
def fnEmptyCard : Claim7 := { stood := { row := fnEmptyRow, standIns := [], harness := (true, "453431734d84350b7d8fc107e358c103e678c30681c39fedc131a474ebe67e7b"), looks := true }, kinds := [], alts := [], laidByText := true, laidKinds := [.data, .data, .data, .data, .pinned, .pinned, .pinned], laidTests := true, laidLooks := .later }
def FnEmptyCardSaid : Prop := Claim7.holds Tryz.pinned (.plain (OpenSpec.ofChange fnEmptySpec)) fnEmptyCard

/-- THE TIED CARD OF 'laws.FnIsComparable'. -/
def fnIsComparableCard : Claim7 := { stood := { row := fnIsComparableRow, standIns := [], harness := (true, "453431734d84350b7d8fc107e358c103e678c30681c39fedc131a474ebe67e7b"), looks := true }, kinds := [], alts := [], laidByText := true, laidKinds := [.data, .data, .data, .data, .pinned, .pinned, .pinned], laidTests := true, laidLooks := .later }
def FnIsComparableCardSaid : Prop := Claim7.holds Tryz.pinned (.plain (OpenSpec.ofChange fnIsComparableSpec)) fnIsComparableCard

/-- THE TIED CARD OF 'laws.FnIdenticalSets'. -/
def fnIdenticalSetsCard : Claim7 := { stood := { row := fnIdenticalSetsRow, standIns := [], harness := (true, "453431734d84350b7d8fc107e358c103e678c30681c39fedc131a474ebe67e7b"), looks := true }, kinds := [], alts := [], laidByText := true, laidKinds := [.data, .data, .data, .data, .pinned, .pinned, .pinned], laidTests := true, laidLooks := .later }
def FnIdenticalSetsCardSaid : Prop := Claim7.holds Tryz.pinned (.plain (OpenSpec.ofChange fnIdenticalSetsSpec)) fnIdenticalSetsCard

/-- THE SECOND FORM's CARD OF 'laws.FnEmpty'. -/
def fnEmptyUptoCard : Claim7 := { stood := { row := fnEmptyUptoRow, standIns := [], harness := (true, "453431734d84350b7d8fc107e358c103e678c30681c39fedc131a474ebe67e7b"), looks := true }, kinds := [], alts := [], laidByText := true, laidKinds := [.data, .data, .data, .data, .pinned, .pinned, .pinned], laidTests := true, laidLooks := .later }
def FnEmptyUptoCardSaid : Prop := Claim7.holds Tryz.pinned (.plain (OpenSpec.upto fnEmptySpec)) fnEmptyUptoCard

/-- THE SECOND FORM's CARD OF 'laws.FnIsComparable'. -/
def fnIsComparableUptoCard : Claim7 := { stood := { row := fnIsComparableUptoRow, standIns := [], harness := (true, "453431734d84350b7d8fc107e358c103e678c30681c39fedc131a474ebe67e7b"), looks := true }, kinds := [], alts := [], laidByText := true, laidKinds := [.data, .data, .data, .data, .pinned, .pinned, .pinned], laidTests := true, laidLooks := .later }
def FnIsComparableUptoCardSaid : Prop := Claim7.holds Tryz.pinned (.plain (OpenSpec.upto fnIsComparableSpec)) fnIsComparableUptoCard

/-- THE SECOND FORM's CARD OF 'laws.FnIdenticalSets'. -/
def fnIdenticalSetsUptoCard : Claim7 := { stood := { row := fnIdenticalSetsUptoRow, standIns := [], harness := (true, "453431734d84350b7d8fc107e358c103e678c30681c39fedc131a474ebe67e7b"), looks := true }, kinds := [], alts := [], laidByText := true, laidKinds := [.data, .data, .data, .data, .pinned, .pinned, .pinned], laidTests := true, laidLooks := .later }
def FnIdenticalSetsUptoCardSaid : Prop := Claim7.holds Tryz.pinned (.plain (OpenSpec.upto fnIdenticalSetsSpec)) fnIdenticalSetsUptoCard
end Rows
end Go.Proofs.YtkochlhejabdcaaGreatDoor
