/-
  DERIVED. GIVEN WITH THE SEED: THE CARDS: each row of YtbpoecfbcmdeeaaDoorRows.lean that lists a variable, with what it lists TIED to the program's text (the seventh form; the later family's looks); each row that meets fmt, with fmt's text TOLD by the authors' own Lean function (tested against real Go, not proved from fmt's source: count such statements apart). THE CARD IS WHAT COUNTS. Prove the row's statement (the work); the ties are given (YtbpoecfbcmdeeaaDoorTie.lean); close each card by the builder's one call (the guide's Derived/Test/ToyasCard.lean, 'card_holds'). Laid BY PROGRAM, IN A SANDBOX (cutbox-door.mjs). By AI agents, Wed Nov 11 2026. No macro, syntax, notation, axiom, sorry.
-/
import Derived.Test.YtbpoecfbcmdeeaaDoorRows
import GoSem.ClaimSeven
namespace Go.Proofs.YtbpoecfbcmdeeaaDoor
namespace Rows

/-- THE TIED CARD OF 'laws.FnEncodedIsWords'. -/
def fnEncodedIsWordsCard : Claim7 := { stood := { row := fnEncodedIsWordsRow, standIns := [], harness := (true, "b1a51ab77acdfac25995ed1ad7ba50ab3b24497728bfd85d4440d2da52687153"), looks := true }, kinds := [], alts := [], laidByText := true, laidKinds := [.data, .data, .data, .pinned, .pinned], laidTests := true, laidLooks := .later }
def FnEncodedIsWordsCardSaid : Prop := Claim7.holds Tryd.pinned (.plain (OpenSpec.ofChange fnEncodedIsWordsSpec)) fnEncodedIsWordsCard

/-- THE TIED CARD OF 'laws.FnWordIsDecoded'. -/
def fnWordIsDecodedCard : Claim7 := { stood := { row := fnWordIsDecodedRow, standIns := [], harness := (true, "b1a51ab77acdfac25995ed1ad7ba50ab3b24497728bfd85d4440d2da52687153"), looks := true }, kinds := [], alts := [], laidByText := true, laidKinds := [.data, .sentinel, .sentinel, .sentinel, .data, .data, .sentinel, .pinned, .pinned], laidTests := true, laidLooks := .later }
def FnWordIsDecodedCardSaid : Prop := Claim7.holds Tryd.pinned (.plain (OpenSpec.ofChange fnWordIsDecodedSpec)) fnWordIsDecodedCard

/-- THE TIED CARD OF 'laws.FnHeaderIsDecoded'. -/
def fnHeaderIsDecodedCard : Claim7 := { stood := { row := fnHeaderIsDecodedRow, standIns := [], harness := (true, "b1a51ab77acdfac25995ed1ad7ba50ab3b24497728bfd85d4440d2da52687153"), looks := true }, kinds := [], alts := [], laidByText := true, laidKinds := [.data, .sentinel, .sentinel, .sentinel, .data, .data, .sentinel, .pinned, .pinned], laidTests := true, laidLooks := .later }
def FnHeaderIsDecodedCardSaid : Prop := Claim7.holds Tryd.pinned (.plain (OpenSpec.ofChange fnHeaderIsDecodedSpec)) fnHeaderIsDecodedCard

/-- THE SECOND FORM's CARD OF 'laws.FnEncodedIsWords'. -/
def fnEncodedIsWordsUptoCard : Claim7 := { stood := { row := fnEncodedIsWordsUptoRow, standIns := [], harness := (true, "b1a51ab77acdfac25995ed1ad7ba50ab3b24497728bfd85d4440d2da52687153"), looks := true }, kinds := [], alts := [], laidByText := true, laidKinds := [.data, .data, .data, .pinned, .pinned], laidTests := true, laidLooks := .later }
def FnEncodedIsWordsUptoCardSaid : Prop := Claim7.holds Tryd.pinned (.plain (OpenSpec.upto fnEncodedIsWordsSpec)) fnEncodedIsWordsUptoCard

/-- THE SECOND FORM's CARD OF 'laws.FnWordIsDecoded'. -/
def fnWordIsDecodedUptoCard : Claim7 := { stood := { row := fnWordIsDecodedUptoRow, standIns := [], harness := (true, "b1a51ab77acdfac25995ed1ad7ba50ab3b24497728bfd85d4440d2da52687153"), looks := true }, kinds := [], alts := [], laidByText := true, laidKinds := [.data, .sentinel, .sentinel, .sentinel, .data, .data, .sentinel, .pinned, .pinned], laidTests := true, laidLooks := .later }
def FnWordIsDecodedUptoCardSaid : Prop := Claim7.holds Tryd.pinned (.plain (OpenSpec.upto fnWordIsDecodedSpec)) fnWordIsDecodedUptoCard

/-- THE SECOND FORM's CARD OF 'laws.FnHeaderIsDecoded'. -/
def fnHeaderIsDecodedUptoCard : Claim7 := { stood := { row := fnHeaderIsDecodedUptoRow, standIns := [], harness := (true, "b1a51ab77acdfac25995ed1ad7ba50ab3b24497728bfd85d4440d2da52687153"), looks := true }, kinds := [], alts := [], laidByText := true, laidKinds := [.data, .sentinel, .sentinel, .sentinel, .data, .data, .sentinel, .pinned, .pinned], laidTests := true, laidLooks := .later }
def FnHeaderIsDecodedUptoCardSaid : Prop := Claim7.holds Tryd.pinned (.plain (OpenSpec.upto fnHeaderIsDecodedSpec)) fnHeaderIsDecodedUptoCard
end Rows
end Go.Proofs.YtbpoecfbcmdeeaaDoor
