/-
  DERIVED. GIVEN WITH THE SEED: THE CARDS: each row of YtolbedmmjennoaaDoorRows.lean that lists a variable, with what it lists TIED to the program's text (the seventh form; the later family's looks); each row that meets fmt, with fmt's text TOLD by the authors' own Lean function (tested against real Go, not proved from fmt's source: count such statements apart). THE CARD IS WHAT COUNTS. Prove the row's statement (the work); the ties are given (YtolbedmmjennoaaDoorTie.lean); close each card by the builder's one call (the guide's Derived/Test/ToyasCard.lean, 'card_holds'). Laid BY PROGRAM, IN A SANDBOX (cutbox-door.mjs). By AI agents, Wed Nov 11 2026. No macro, syntax, notation, axiom, sorry.
-/
import Derived.Test.YtolbedmmjennoaaDoorRows
import GoSem.ClaimSeven
namespace Go.Proofs.YtolbedmmjennoaaDoor
namespace Rows

/-- THE TIED CARD OF 'laws.FnPlainIsPrinted'. -/
def fnPlainIsPrintedCard : Claim7 := { stood := { row := fnPlainIsPrintedRow, standIns := [], harness := (true, "623653c3862542c578090f3ba4d206ab7e9ce16c1c165c77fcbdabf2ef7e2d24"), looks := false }, kinds := [], alts := [], laidByText := true, laidKinds := [.data, .data, .data, .pinned, .pinned], laidTests := true, laidLooks := .later }
def FnPlainIsPrintedCardSaid : Prop := Claim7.holds Tryd.pinned (.plain (OpenSpec.ofChange fnPlainIsPrintedSpec)) fnPlainIsPrintedCard

/-- THE TIED CARD OF 'laws.FnNumbersInBrackets'. -/
def fnNumbersInBracketsCard : Claim7 := { stood := { row := fnNumbersInBracketsRow, standIns := [], harness := (true, "623653c3862542c578090f3ba4d206ab7e9ce16c1c165c77fcbdabf2ef7e2d24"), looks := false }, kinds := [], alts := [], laidByText := true, laidKinds := [.data, .called, .called, .zero, .pinned], laidTests := true, laidLooks := .later }
def FnNumbersInBracketsCardSaid : Prop := Claim7.holds Tryd.pinned (.plain (OpenSpec.ofChange fnNumbersInBracketsSpec)) fnNumbersInBracketsCard

/-- THE TIED CARD OF 'laws.FnSpecIsTaken'. -/
def fnSpecIsTakenCard : Claim7 := { stood := { row := fnSpecIsTakenRow, standIns := [], harness := (true, "623653c3862542c578090f3ba4d206ab7e9ce16c1c165c77fcbdabf2ef7e2d24"), looks := false }, kinds := [], alts := [], laidByText := true, laidKinds := [.data, .called, .called, .zero, .pinned], laidTests := true, laidLooks := .later }
def FnSpecIsTakenCardSaid : Prop := Claim7.holds Tryd.pinned (.plain (OpenSpec.ofChange fnSpecIsTakenSpec)) fnSpecIsTakenCard

/-- THE SECOND FORM's CARD OF 'laws.FnPlainIsPrinted'. -/
def fnPlainIsPrintedUptoCard : Claim7 := { stood := { row := fnPlainIsPrintedUptoRow, standIns := [], harness := (true, "623653c3862542c578090f3ba4d206ab7e9ce16c1c165c77fcbdabf2ef7e2d24"), looks := false }, kinds := [], alts := [], laidByText := true, laidKinds := [.data, .data, .data, .pinned, .pinned], laidTests := true, laidLooks := .later }
def FnPlainIsPrintedUptoCardSaid : Prop := Claim7.holds Tryd.pinned (.plain (OpenSpec.upto fnPlainIsPrintedSpec)) fnPlainIsPrintedUptoCard

/-- THE SECOND FORM's CARD OF 'laws.FnNumbersInBrackets'. -/
def fnNumbersInBracketsUptoCard : Claim7 := { stood := { row := fnNumbersInBracketsUptoRow, standIns := [], harness := (true, "623653c3862542c578090f3ba4d206ab7e9ce16c1c165c77fcbdabf2ef7e2d24"), looks := false }, kinds := [], alts := [], laidByText := true, laidKinds := [.data, .called, .called, .zero, .pinned], laidTests := true, laidLooks := .later }
def FnNumbersInBracketsUptoCardSaid : Prop := Claim7.holds Tryd.pinned (.plain (OpenSpec.upto fnNumbersInBracketsSpec)) fnNumbersInBracketsUptoCard

/-- THE SECOND FORM's CARD OF 'laws.FnSpecIsTaken'. -/
def fnSpecIsTakenUptoCard : Claim7 := { stood := { row := fnSpecIsTakenUptoRow, standIns := [], harness := (true, "623653c3862542c578090f3ba4d206ab7e9ce16c1c165c77fcbdabf2ef7e2d24"), looks := false }, kinds := [], alts := [], laidByText := true, laidKinds := [.data, .called, .called, .zero, .pinned], laidTests := true, laidLooks := .later }
def FnSpecIsTakenUptoCardSaid : Prop := Claim7.holds Tryd.pinned (.plain (OpenSpec.upto fnSpecIsTakenSpec)) fnSpecIsTakenUptoCard
end Rows
end Go.Proofs.YtolbedmmjennoaaDoor
