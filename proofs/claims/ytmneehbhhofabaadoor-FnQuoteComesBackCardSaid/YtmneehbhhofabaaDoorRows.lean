/-
  NARROWER THAN 'FOR EVERY INPUT', by the rows' own cells (each row's printed sentence says how): FnQuotedIsTaken: laid · FnAtomIsTaken: laid · FnDotAtomIsTaken: laid · FnQuoteComesBack: laid.
  DERIVED. THE GIVEN ROWS OF THIS SEAT. 4 by the template 'for every input the law returns true; each argument reads behind the call as it read before'; 0 by the template 'total and deterministic' (their statements: YtmneehbhhofabaaDoorTotals.lean).
  GIVEN WITH THE SEED: the statements are not yours to turn. If you find one false, say at which input.
  Laid BY PROGRAM, IN A SANDBOX (cutbox-rows.mjs): the forced cells as the released guide's own fill.sh prints them over the translation f6cf4c67ecfe6dd0… (all of the seat's roots in one cut). By AI agents, Wed Nov 11 2026. No macro, syntax, notation, axiom, sorry.
-/
import Derived.Test.YtmneehbhhofabaaDoorChecked
import GoSem.PinnedTables
import GoSem.Claim
import GoSem.ClaimJoined
import GoSem.ClaimMapViews
import Derived.JoinedTies
import Derived.KernelRfl
namespace Go.Proofs.YtmneehbhhofabaaDoor
/- THE CELL 'sum', in the pinned program and in every row, IS THE sha256 OF THE DUMP (.gsa) THAT YtmneehbhhofabaaDoorProg.lean LOADS. Nothing in Lean hashes anything: it is a label: what it is worth is what the hold of that sum in a sandbox is worth. -/
noncomputable def Tryd.pinned : Pinned := { name := "ytmneehbhhofabaadoor", sum := "f6cf4c67ecfe6dd07846dfbd0d70e1a5f6d675cb79cbad5980b58fb18c6dda8e", checked := Tryd.checked }
namespace Rows
def none {H : Type} : Left H := { results := [], args := [] }

/- WHAT THE LISTED PACKAGE-LEVEL VARIABLES READ AS WHEN THE CALL BEGINS. Each datum BY PROGRAM (the guide's laid-datum.mjs) off the statement by which the dump's own 'gosem.cut.vars' lays the variable. In a bare row this is a premise. The card (YtmneehbhhofabaaDoorCards.lean) ties it to the program's text. -/
def laid_unicode_utf8_acceptRanges {H : Type} : DataW H := .agg [.agg [.lit (.int .u8 128), .lit (.int .u8 191)], .agg [.lit (.int .u8 160), .lit (.int .u8 191)], .agg [.lit (.int .u8 128), .lit (.int .u8 159)], .agg [.lit (.int .u8 144), .lit (.int .u8 191)], .agg [.lit (.int .u8 128), .lit (.int .u8 143)], .agg [.lit (.int .u8 0), .lit (.int .u8 0)], .agg [.lit (.int .u8 0), .lit (.int .u8 0)], .agg [.lit (.int .u8 0), .lit (.int .u8 0)], .agg [.lit (.int .u8 0), .lit (.int .u8 0)], .agg [.lit (.int .u8 0), .lit (.int .u8 0)], .agg [.lit (.int .u8 0), .lit (.int .u8 0)], .agg [.lit (.int .u8 0), .lit (.int .u8 0)], .agg [.lit (.int .u8 0), .lit (.int .u8 0)], .agg [.lit (.int .u8 0), .lit (.int .u8 0)], .agg [.lit (.int .u8 0), .lit (.int .u8 0)], .agg [.lit (.int .u8 0), .lit (.int .u8 0)]]
/-- One of Go's own tables, pinned by name: the form's constant. -/
def laid_unicode_utf8_first : DataW Unit := Go.Pinned.utf8First

/-- 'laws.FnQuotedIsTaken': WHATEVER THE INPUT: true; the input reads as it did. -/
def fnQuotedIsTakenSpec : ChangeSpec := { name := "fnQuotedIsTaken", fn := fun _ => fun
  | [d1, d2, d3] => { results := [.lit (.bool true)], args := [d1, d2, d3] }
  | _ => none }
def fnQuotedIsTakenRow : OpenClaim := { program := "ytmneehbhhofabaadoor", sum := "f6cf4c67ecfe6dd07846dfbd0d70e1a5f6d675cb79cbad5980b58fb18c6dda8e", func := "mailtexts/laws.FnQuotedIsTaken", spec := "fnQuotedIsTaken", named := ["unicode/utf8.first", "unicode/utf8.acceptRanges"], apart := false, laid := [("unicode/utf8.acceptRanges", laid_unicode_utf8_acceptRanges), ("unicode/utf8.first", laid_unicode_utf8_first)] }
def FnQuotedIsTakenSaid : Prop := fnQuotedIsTakenRow.holds Tryd.pinned (OpenSpec.ofChange fnQuotedIsTakenSpec)

/-- ITS FALSE NEIGHBOUR: 'it returns false'. Refute it at one input. -/
def fnQuotedIsTakenWrong : ChangeSpec := { name := "fnQuotedIsTaken", fn := fun _ => fun
  | [d1, d2, d3] => { results := [.lit (.bool false)], args := [d1, d2, d3] }
  | _ => none }
def FnQuotedIsTakenWrongFalsely : Prop := fnQuotedIsTakenRow.holds Tryd.pinned (OpenSpec.ofChange fnQuotedIsTakenWrong)

/-- 'laws.FnAtomIsTaken': WHATEVER THE INPUT: true; the input reads as it did. -/
def fnAtomIsTakenSpec : ChangeSpec := { name := "fnAtomIsTaken", fn := fun _ => fun
  | [d] => { results := [.lit (.bool true)], args := [d] }
  | _ => none }
def fnAtomIsTakenRow : OpenClaim := { program := "ytmneehbhhofabaadoor", sum := "f6cf4c67ecfe6dd07846dfbd0d70e1a5f6d675cb79cbad5980b58fb18c6dda8e", func := "mailtexts/laws.FnAtomIsTaken", spec := "fnAtomIsTaken", named := ["unicode/utf8.first", "unicode/utf8.acceptRanges"], apart := false, laid := [("unicode/utf8.acceptRanges", laid_unicode_utf8_acceptRanges), ("unicode/utf8.first", laid_unicode_utf8_first)] }
def FnAtomIsTakenSaid : Prop := fnAtomIsTakenRow.holds Tryd.pinned (OpenSpec.ofChange fnAtomIsTakenSpec)

/-- ITS FALSE NEIGHBOUR: 'it returns false'. Refute it at one input. -/
def fnAtomIsTakenWrong : ChangeSpec := { name := "fnAtomIsTaken", fn := fun _ => fun
  | [d] => { results := [.lit (.bool false)], args := [d] }
  | _ => none }
def FnAtomIsTakenWrongFalsely : Prop := fnAtomIsTakenRow.holds Tryd.pinned (OpenSpec.ofChange fnAtomIsTakenWrong)

/-- 'laws.FnDotAtomIsTaken': WHATEVER THE INPUT: true; the input reads as it did. -/
def fnDotAtomIsTakenSpec : ChangeSpec := { name := "fnDotAtomIsTaken", fn := fun _ => fun
  | [d1, d2] => { results := [.lit (.bool true)], args := [d1, d2] }
  | _ => none }
def fnDotAtomIsTakenRow : OpenClaim := { program := "ytmneehbhhofabaadoor", sum := "f6cf4c67ecfe6dd07846dfbd0d70e1a5f6d675cb79cbad5980b58fb18c6dda8e", func := "mailtexts/laws.FnDotAtomIsTaken", spec := "fnDotAtomIsTaken", named := ["unicode/utf8.first", "unicode/utf8.acceptRanges"], apart := false, laid := [("unicode/utf8.acceptRanges", laid_unicode_utf8_acceptRanges), ("unicode/utf8.first", laid_unicode_utf8_first)] }
def FnDotAtomIsTakenSaid : Prop := fnDotAtomIsTakenRow.holds Tryd.pinned (OpenSpec.ofChange fnDotAtomIsTakenSpec)

/-- ITS FALSE NEIGHBOUR: 'it returns false'. Refute it at one input. -/
def fnDotAtomIsTakenWrong : ChangeSpec := { name := "fnDotAtomIsTaken", fn := fun _ => fun
  | [d1, d2] => { results := [.lit (.bool false)], args := [d1, d2] }
  | _ => none }
def FnDotAtomIsTakenWrongFalsely : Prop := fnDotAtomIsTakenRow.holds Tryd.pinned (OpenSpec.ofChange fnDotAtomIsTakenWrong)

/-- 'laws.FnQuoteComesBack': WHATEVER THE INPUT: true; the input reads as it did. -/
def fnQuoteComesBackSpec : ChangeSpec := { name := "fnQuoteComesBack", fn := fun _ => fun
  | [d1, d2] => { results := [.lit (.bool true)], args := [d1, d2] }
  | _ => none }
def fnQuoteComesBackRow : OpenClaim := { program := "ytmneehbhhofabaadoor", sum := "f6cf4c67ecfe6dd07846dfbd0d70e1a5f6d675cb79cbad5980b58fb18c6dda8e", func := "mailtexts/laws.FnQuoteComesBack", spec := "fnQuoteComesBack", inPlace := ["internal/abi.NoEscape"], named := ["unicode/utf8.first", "unicode/utf8.acceptRanges"], apart := false, laid := [("unicode/utf8.acceptRanges", laid_unicode_utf8_acceptRanges), ("unicode/utf8.first", laid_unicode_utf8_first)] }
def FnQuoteComesBackSaid : Prop := fnQuoteComesBackRow.holds Tryd.pinned (OpenSpec.ofChange fnQuoteComesBackSpec)

/-- ITS FALSE NEIGHBOUR: 'it returns false'. Refute it at one input. -/
def fnQuoteComesBackWrong : ChangeSpec := { name := "fnQuoteComesBack", fn := fun _ => fun
  | [d1, d2] => { results := [.lit (.bool false)], args := [d1, d2] }
  | _ => none }
def FnQuoteComesBackWrongFalsely : Prop := fnQuoteComesBackRow.holds Tryd.pinned (OpenSpec.ofChange fnQuoteComesBackWrong)

/- THE SECOND FORM. 'bulk': how many values and letters a reading holds, each counted each time it is reached (what is shared counts as often as it is met; a slice's spare places count too). A statement '..UptoSaid' is the law's where the arguments, and the package variables that the reading takes, are together of bulk at most 1048576: NARROWER than '..Said'. Prove '..Said' where nothing that the law and all that it calls make is longer than what came in: it says more and counts as full. Else prove '..UptoSaid'. A law counts once. -/
mutual
def uptoBulk {H : Type} : DataW H → Nat
  | .lit (.string bytes) => bytes.length + 1
  | .lit _ => 1
  | .nil => 1
  | .ptr d => uptoBulk d + 1
  | .slice elems spare => uptoBulkAll elems + uptoBulkAll spare + 1
  | .agg parts => uptoBulkAll parts + 1
  | .iface _ d => uptoBulk d + 1
  | .map entries => uptoBulkEntries entries + 1
  | .held _ => 1
def uptoBulkAll {H : Type} : List (DataW H) → Nat
  | [] => 0
  | d :: r => uptoBulk d + uptoBulkAll r
def uptoBulkEntries {H : Type} : List (Lit × DataW H) → Nat
  | [] => 0
  | x :: r => uptoBulkEntry x + uptoBulkEntries r
def uptoBulkEntry {H : Type} : Lit × DataW H → Nat
  | (.string bytes, d) => bytes.length + uptoBulk d + 1
  | (_, d) => uptoBulk d + 1
 end
def uptoSmall : (H : Type) → List (DataW H) → Bool := fun _ ds => decide (uptoBulkAll ds ≤ 1048576)
def OpenSpec.upto (s : _root_.Go.ChangeSpec) : _root_.Go.OpenSpec := { _root_.Go.OpenSpec.ofChange s with cond := some uptoSmall }

/-- 'laws.FnQuotedIsTaken', WHERE WHAT IT READS IS OF BULK AT MOST 1048576: true; the input reads as it did. -/
def fnQuotedIsTakenUptoRow : OpenClaim := { program := "ytmneehbhhofabaadoor", sum := "f6cf4c67ecfe6dd07846dfbd0d70e1a5f6d675cb79cbad5980b58fb18c6dda8e", func := "mailtexts/laws.FnQuotedIsTaken", spec := "fnQuotedIsTaken", named := ["unicode/utf8.first", "unicode/utf8.acceptRanges"], apart := false, laid := [("unicode/utf8.acceptRanges", laid_unicode_utf8_acceptRanges), ("unicode/utf8.first", laid_unicode_utf8_first)], narrowed := true }
def FnQuotedIsTakenUptoSaid : Prop := fnQuotedIsTakenUptoRow.holds Tryd.pinned (OpenSpec.upto fnQuotedIsTakenSpec)

/-- 'laws.FnAtomIsTaken', WHERE WHAT IT READS IS OF BULK AT MOST 1048576: true; the input reads as it did. -/
def fnAtomIsTakenUptoRow : OpenClaim := { program := "ytmneehbhhofabaadoor", sum := "f6cf4c67ecfe6dd07846dfbd0d70e1a5f6d675cb79cbad5980b58fb18c6dda8e", func := "mailtexts/laws.FnAtomIsTaken", spec := "fnAtomIsTaken", named := ["unicode/utf8.first", "unicode/utf8.acceptRanges"], apart := false, laid := [("unicode/utf8.acceptRanges", laid_unicode_utf8_acceptRanges), ("unicode/utf8.first", laid_unicode_utf8_first)], narrowed := true }
def FnAtomIsTakenUptoSaid : Prop := fnAtomIsTakenUptoRow.holds Tryd.pinned (OpenSpec.upto fnAtomIsTakenSpec)

/-- 'laws.FnDotAtomIsTaken', WHERE WHAT IT READS IS OF BULK AT MOST 1048576: true; the input reads as it did. -/
def fnDotAtomIsTakenUptoRow : OpenClaim := { program := "ytmneehbhhofabaadoor", sum := "f6cf4c67ecfe6dd07846dfbd0d70e1a5f6d675cb79cbad5980b58fb18c6dda8e", func := "mailtexts/laws.FnDotAtomIsTaken", spec := "fnDotAtomIsTaken", named := ["unicode/utf8.first", "unicode/utf8.acceptRanges"], apart := false, laid := [("unicode/utf8.acceptRanges", laid_unicode_utf8_acceptRanges), ("unicode/utf8.first", laid_unicode_utf8_first)], narrowed := true }
def FnDotAtomIsTakenUptoSaid : Prop := fnDotAtomIsTakenUptoRow.holds Tryd.pinned (OpenSpec.upto fnDotAtomIsTakenSpec)

/-- 'laws.FnQuoteComesBack', WHERE WHAT IT READS IS OF BULK AT MOST 1048576: true; the input reads as it did. -/
def fnQuoteComesBackUptoRow : OpenClaim := { program := "ytmneehbhhofabaadoor", sum := "f6cf4c67ecfe6dd07846dfbd0d70e1a5f6d675cb79cbad5980b58fb18c6dda8e", func := "mailtexts/laws.FnQuoteComesBack", spec := "fnQuoteComesBack", inPlace := ["internal/abi.NoEscape"], named := ["unicode/utf8.first", "unicode/utf8.acceptRanges"], apart := false, laid := [("unicode/utf8.acceptRanges", laid_unicode_utf8_acceptRanges), ("unicode/utf8.first", laid_unicode_utf8_first)], narrowed := true }
def FnQuoteComesBackUptoSaid : Prop := fnQuoteComesBackUptoRow.holds Tryd.pinned (OpenSpec.upto fnQuoteComesBackSpec)

end Rows
end Go.Proofs.YtmneehbhhofabaaDoor
