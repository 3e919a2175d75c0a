/-
  DERIVED. GIVEN WITH THE SEED: THE CARDS: each row of YtmneehbhhofabaaDoorRows.lean that lists a variable, with what it lists TIED to the program's text (the seventh form; the later family's looks); each row that meets fmt, with fmt's text TOLD by the authors' own Lean function (tested against real Go, not proved from fmt's source: count such statements apart). THE CARD IS WHAT COUNTS. Prove the row's statement (the work); the ties are given (YtmneehbhhofabaaDoorTie.lean); close each card by the builder's one call (the guide's Derived/Test/ToyasCard.lean, 'card_holds'). Laid BY PROGRAM, IN A SANDBOX (cutbox-door.mjs). By AI agents, Wed Nov 11 2026. No macro, syntax, notation, axiom, sorry.
-/
import Derived.Test.YtmneehbhhofabaaDoorRows
import GoSem.ClaimSeven
namespace Go.Proofs.YtmneehbhhofabaaDoor
namespace Rows

/-- THE TIED CARD OF 'laws.FnQuotedIsTaken'. -/
def fnQuotedIsTakenCard : Claim7 := { stood := { row := fnQuotedIsTakenRow, standIns := [], harness := (true, "49803aad01502463156d53d16517f883d1b76e937c70554ffd4b0a76dd479f8c"), looks := false }, kinds := [], alts := [], laidByText := true, laidKinds := [.data, .pinned], laidTests := true, laidLooks := .later }
def FnQuotedIsTakenCardSaid : Prop := Claim7.holds Tryd.pinned (.plain (OpenSpec.ofChange fnQuotedIsTakenSpec)) fnQuotedIsTakenCard

/-- THE TIED CARD OF 'laws.FnAtomIsTaken'. -/
def fnAtomIsTakenCard : Claim7 := { stood := { row := fnAtomIsTakenRow, standIns := [], harness := (true, "49803aad01502463156d53d16517f883d1b76e937c70554ffd4b0a76dd479f8c"), looks := false }, kinds := [], alts := [], laidByText := true, laidKinds := [.data, .pinned], laidTests := true, laidLooks := .later }
def FnAtomIsTakenCardSaid : Prop := Claim7.holds Tryd.pinned (.plain (OpenSpec.ofChange fnAtomIsTakenSpec)) fnAtomIsTakenCard

/-- THE TIED CARD OF 'laws.FnDotAtomIsTaken'. -/
def fnDotAtomIsTakenCard : Claim7 := { stood := { row := fnDotAtomIsTakenRow, standIns := [], harness := (true, "49803aad01502463156d53d16517f883d1b76e937c70554ffd4b0a76dd479f8c"), looks := false }, kinds := [], alts := [], laidByText := true, laidKinds := [.data, .pinned], laidTests := true, laidLooks := .later }
def FnDotAtomIsTakenCardSaid : Prop := Claim7.holds Tryd.pinned (.plain (OpenSpec.ofChange fnDotAtomIsTakenSpec)) fnDotAtomIsTakenCard

/-- THE TIED CARD OF 'laws.FnQuoteComesBack'. -/
def fnQuoteComesBackCard : Claim7 := { stood := { row := fnQuoteComesBackRow, standIns := [], harness := (true, "49803aad01502463156d53d16517f883d1b76e937c70554ffd4b0a76dd479f8c"), looks := false }, kinds := [], alts := [], laidByText := true, laidKinds := [.data, .pinned], laidTests := true, laidLooks := .later }
def FnQuoteComesBackCardSaid : Prop := Claim7.holds Tryd.pinned (.plain (OpenSpec.ofChange fnQuoteComesBackSpec)) fnQuoteComesBackCard

/-- THE SECOND FORM's CARD OF 'laws.FnQuotedIsTaken'. -/
def fnQuotedIsTakenUptoCard : Claim7 := { stood := { row := fnQuotedIsTakenUptoRow, standIns := [], harness := (true, "49803aad01502463156d53d16517f883d1b76e937c70554ffd4b0a76dd479f8c"), looks := false }, kinds := [], alts := [], laidByText := true, laidKinds := [.data, .pinned], laidTests := true, laidLooks := .later }
def FnQuotedIsTakenUptoCardSaid : Prop := Claim7.holds Tryd.pinned (.plain (OpenSpec.upto fnQuotedIsTakenSpec)) fnQuotedIsTakenUptoCard

/-- THE SECOND FORM's CARD OF 'laws.FnAtomIsTaken'. -/
def fnAtomIsTakenUptoCard : Claim7 := { stood := { row := fnAtomIsTakenUptoRow, standIns := [], harness := (true, "49803aad01502463156d53d16517f883d1b76e937c70554ffd4b0a76dd479f8c"), looks := false }, kinds := [], alts := [], laidByText := true, laidKinds := [.data, .pinned], laidTests := true, laidLooks := .later }
def FnAtomIsTakenUptoCardSaid : Prop := Claim7.holds Tryd.pinned (.plain (OpenSpec.upto fnAtomIsTakenSpec)) fnAtomIsTakenUptoCard

/-- THE SECOND FORM's CARD OF 'laws.FnDotAtomIsTaken'. -/
def fnDotAtomIsTakenUptoCard : Claim7 := { stood := { row := fnDotAtomIsTakenUptoRow, standIns := [], harness := (true, "49803aad01502463156d53d16517f883d1b76e937c70554ffd4b0a76dd479f8c"), looks := false }, kinds := [], alts := [], laidByText := true, laidKinds := [.data, .pinned], laidTests := true, laidLooks := .later }
def FnDotAtomIsTakenUptoCardSaid : Prop := Claim7.holds Tryd.pinned (.plain (OpenSpec.upto fnDotAtomIsTakenSpec)) fnDotAtomIsTakenUptoCard

/-- THE SECOND FORM's CARD OF 'laws.FnQuoteComesBack'. -/
def fnQuoteComesBackUptoCard : Claim7 := { stood := { row := fnQuoteComesBackUptoRow, standIns := [], harness := (true, "49803aad01502463156d53d16517f883d1b76e937c70554ffd4b0a76dd479f8c"), looks := false }, kinds := [], alts := [], laidByText := true, laidKinds := [.data, .pinned], laidTests := true, laidLooks := .later }
def FnQuoteComesBackUptoCardSaid : Prop := Claim7.holds Tryd.pinned (.plain (OpenSpec.upto fnQuoteComesBackSpec)) fnQuoteComesBackUptoCard
end Rows
end Go.Proofs.YtmneehbhhofabaaDoor
