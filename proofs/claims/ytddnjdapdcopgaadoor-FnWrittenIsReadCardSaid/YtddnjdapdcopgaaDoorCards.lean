/-
  DERIVED. GIVEN WITH THE SEED: THE CARDS: each row of YtddnjdapdcopgaaDoorRows.lean that lists a variable, with what it lists TIED to the program's text (the seventh form; the later family's looks); each row that meets fmt, with fmt's text TOLD by the authors' own Lean function (tested against real Go, not proved from fmt's source: count such statements apart). THE CARD IS WHAT COUNTS. Prove the row's statement (the work); the ties are given (YtddnjdapdcopgaaDoorTie.lean); close each card by the builder's one call (the guide's Derived/Test/ToyasCard.lean, 'card_holds'). Laid BY PROGRAM, IN A SANDBOX (cutbox-door.mjs). By AI agents, Wed Nov 11 2026. No macro, syntax, notation, axiom, sorry.
-/
import Derived.Test.YtddnjdapdcopgaaDoorRows
import GoSem.ClaimSeven
namespace Go.Proofs.YtddnjdapdcopgaaDoor
namespace Rows

/-- THE TIED CARD OF 'laws.FnMessage'. -/
def fnMessageCard : Claim7 := { stood := { row := fnMessageRow, standIns := [], harness := (true, "9cdbb75af064ae82bde7e6f3c8014823058ca7c3b6372e8d5d510e6bbd4896e0"), looks := true }, kinds := [], alts := [], laidByText := true, laidKinds := [.sentinel, .sentinel, .sentinel, .sentinel, .sentinel, .sentinel, .sentinel, .sentinel], laidTests := true, laidLooks := .later }
def FnMessageCardSaid : Prop := Claim7.holds Tryd.pinned (.plain (OpenSpec.ofChange fnMessageSpec)) fnMessageCard

/-- THE TIED CARD OF 'laws.FnWrittenIsRead'. -/
def fnWrittenIsReadCard : Claim7 := { stood := { row := fnWrittenIsReadRow, standIns := [], harness := (true, "9cdbb75af064ae82bde7e6f3c8014823058ca7c3b6372e8d5d510e6bbd4896e0"), looks := true }, kinds := [], alts := [], laidByText := true, laidKinds := [.sentinel, .sentinel, .sentinel, .sentinel, .sentinel, .sentinel, .sentinel, .sentinel], laidTests := true, laidLooks := .later }
def FnWrittenIsReadCardSaid : Prop := Claim7.holds Tryd.pinned (.plain (OpenSpec.ofChange fnWrittenIsReadSpec)) fnWrittenIsReadCard

/-- THE SECOND FORM's CARD OF 'laws.FnMessage'. -/
def fnMessageUptoCard : Claim7 := { stood := { row := fnMessageUptoRow, standIns := [], harness := (true, "9cdbb75af064ae82bde7e6f3c8014823058ca7c3b6372e8d5d510e6bbd4896e0"), looks := true }, kinds := [], alts := [], laidByText := true, laidKinds := [.sentinel, .sentinel, .sentinel, .sentinel, .sentinel, .sentinel, .sentinel, .sentinel], laidTests := true, laidLooks := .later }
def FnMessageUptoCardSaid : Prop := Claim7.holds Tryd.pinned (.plain (OpenSpec.upto fnMessageSpec)) fnMessageUptoCard

/-- THE SECOND FORM's CARD OF 'laws.FnWrittenIsRead'. -/
def fnWrittenIsReadUptoCard : Claim7 := { stood := { row := fnWrittenIsReadUptoRow, standIns := [], harness := (true, "9cdbb75af064ae82bde7e6f3c8014823058ca7c3b6372e8d5d510e6bbd4896e0"), looks := true }, kinds := [], alts := [], laidByText := true, laidKinds := [.sentinel, .sentinel, .sentinel, .sentinel, .sentinel, .sentinel, .sentinel, .sentinel], laidTests := true, laidLooks := .later }
def FnWrittenIsReadUptoCardSaid : Prop := Claim7.holds Tryd.pinned (.plain (OpenSpec.upto fnWrittenIsReadSpec)) fnWrittenIsReadUptoCard
end Rows
end Go.Proofs.YtddnjdapdcopgaaDoor
