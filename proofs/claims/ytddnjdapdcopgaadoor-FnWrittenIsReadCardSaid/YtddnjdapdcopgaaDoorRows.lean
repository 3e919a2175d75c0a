/-
  NARROWER THAN 'FOR EVERY INPUT', by the rows' own cells (each row's printed sentence says how): FnMessage: laid · FnWrittenIsRead: laid.
  DERIVED. THE GIVEN ROWS OF THIS SEAT. 2 by the template 'for every input the law returns true; each argument reads behind the call as it read before'; 0 by the template 'total and deterministic' (their statements: YtddnjdapdcopgaaDoorTotals.lean).
  GIVEN WITH THE SEED: the statements are not yours to turn. If you find one false, say at which input.
  Laid BY PROGRAM, IN A SANDBOX (cutbox-rows.mjs): the forced cells as the released guide's own fill.sh prints them over the translation 744f715f50bdbec5… (all of the seat's roots in one cut). By AI agents, Wed Nov 11 2026. No macro, syntax, notation, axiom, sorry.
-/
import Derived.Test.YtddnjdapdcopgaaDoorChecked
import GoSem.Claim
import GoSem.ClaimJoined
import GoSem.ClaimMapViews
import Derived.JoinedTies
import Derived.KernelRfl
namespace Go.Proofs.YtddnjdapdcopgaaDoor
/- THE CELL 'sum', in the pinned program and in every row, IS THE sha256 OF THE DUMP (.gsa) THAT YtddnjdapdcopgaaDoorProg.lean LOADS. Nothing in Lean hashes anything: it is a label: what it is worth is what the hold of that sum in a sandbox is worth. -/
noncomputable def Tryd.pinned : Pinned := { name := "ytddnjdapdcopgaadoor", sum := "744f715f50bdbec5179630854808bf66ad17425af3da503e8f73a7ff39435929", checked := Tryd.checked }
namespace Rows
def none {H : Type} : Left H := { results := [], args := [] }

/- WHAT THE LISTED PACKAGE-LEVEL VARIABLES READ AS WHEN THE CALL BEGINS. Each datum BY PROGRAM (the guide's laid-datum.mjs) off the statement by which the dump's own 'gosem.cut.vars' lays the variable. In a bare row this is a premise. The card (YtddnjdapdcopgaaDoorCards.lean) ties it to the program's text. -/
def laid_io_EOF {H : Type} : DataW H := .iface "*errors.errorString" (.ptr (.agg [.lit (.string [69, 79, 70])]))
def laid_io_ErrUnexpectedEOF {H : Type} : DataW H := .iface "*errors.errorString" (.ptr (.agg [.lit (.string [117, 110, 101, 120, 112, 101, 99, 116, 101, 100, 32, 69, 79, 70])]))
def laid_io_ErrNoProgress {H : Type} : DataW H := .iface "*errors.errorString" (.ptr (.agg [.lit (.string [109, 117, 108, 116, 105, 112, 108, 101, 32, 82, 101, 97, 100, 32, 99, 97, 108, 108, 115, 32, 114, 101, 116, 117, 114, 110, 32, 110, 111, 32, 100, 97, 116, 97, 32, 111, 114, 32, 101, 114, 114, 111, 114])]))
def laid_bufio_ErrInvalidUnreadByte {H : Type} : DataW H := .iface "*errors.errorString" (.ptr (.agg [.lit (.string [98, 117, 102, 105, 111, 58, 32, 105, 110, 118, 97, 108, 105, 100, 32, 117, 115, 101, 32, 111, 102, 32, 85, 110, 114, 101, 97, 100, 66, 121, 116, 101])]))
def laid_bufio_ErrBufferFull {H : Type} : DataW H := .iface "*errors.errorString" (.ptr (.agg [.lit (.string [98, 117, 102, 105, 111, 58, 32, 98, 117, 102, 102, 101, 114, 32, 102, 117, 108, 108])]))
def laid_bufio_ErrNegativeCount {H : Type} : DataW H := .iface "*errors.errorString" (.ptr (.agg [.lit (.string [98, 117, 102, 105, 111, 58, 32, 110, 101, 103, 97, 116, 105, 118, 101, 32, 99, 111, 117, 110, 116])]))
def laid_bufio_errNegativeRead {H : Type} : DataW H := .iface "*errors.errorString" (.ptr (.agg [.lit (.string [98, 117, 102, 105, 111, 58, 32, 114, 101, 97, 100, 101, 114, 32, 114, 101, 116, 117, 114, 110, 101, 100, 32, 110, 101, 103, 97, 116, 105, 118, 101, 32, 99, 111, 117, 110, 116, 32, 102, 114, 111, 109, 32, 82, 101, 97, 100])]))
def laid_mailtexts_pub_textproto_errMessageTooLarge {H : Type} : DataW H := .iface "*errors.errorString" (.ptr (.agg [.lit (.string [109, 101, 115, 115, 97, 103, 101, 32, 116, 111, 111, 32, 108, 97, 114, 103, 101])]))

/-- 'laws.FnMessage': WHATEVER THE INPUT: true; the input reads as it did. -/
def fnMessageSpec : ChangeSpec := { name := "fnMessage", fn := fun _ => fun
  | [d] => { results := [.lit (.bool true)], args := [d] }
  | _ => none }
def fnMessageRow : OpenClaim := { program := "ytddnjdapdcopgaadoor", sum := "744f715f50bdbec5179630854808bf66ad17425af3da503e8f73a7ff39435929", func := "mailtexts/laws.FnMessage", spec := "fnMessage", inPlace := ["internal/bytealg.IndexByte"], unfollowed := true, recurses := true, named := ["io.EOF", "bufio.ErrNegativeCount", "bufio.ErrBufferFull", "bufio.errNegativeRead", "io.ErrNoProgress", "mailtexts/pub/textproto.errMessageTooLarge", "io.ErrUnexpectedEOF", "bufio.ErrInvalidUnreadByte"], apart := false, laid := [("io.EOF", laid_io_EOF), ("io.ErrUnexpectedEOF", laid_io_ErrUnexpectedEOF), ("io.ErrNoProgress", laid_io_ErrNoProgress), ("bufio.ErrInvalidUnreadByte", laid_bufio_ErrInvalidUnreadByte), ("bufio.ErrBufferFull", laid_bufio_ErrBufferFull), ("bufio.ErrNegativeCount", laid_bufio_ErrNegativeCount), ("bufio.errNegativeRead", laid_bufio_errNegativeRead), ("mailtexts/pub/textproto.errMessageTooLarge", laid_mailtexts_pub_textproto_errMessageTooLarge)] }
def FnMessageSaid : Prop := fnMessageRow.holds Tryd.pinned (OpenSpec.ofChange fnMessageSpec)

/-- ITS FALSE NEIGHBOUR: 'it returns false'. Refute it at one input. -/
def fnMessageWrong : ChangeSpec := { name := "fnMessage", fn := fun _ => fun
  | [d] => { results := [.lit (.bool false)], args := [d] }
  | _ => none }
def FnMessageWrongFalsely : Prop := fnMessageRow.holds Tryd.pinned (OpenSpec.ofChange fnMessageWrong)

/-- 'laws.FnWrittenIsRead': WHATEVER THE INPUT: true; the input reads as it did. -/
def fnWrittenIsReadSpec : ChangeSpec := { name := "fnWrittenIsRead", fn := fun _ => fun
  | [d1, d2, d3, d4, d5] => { results := [.lit (.bool true)], args := [d1, d2, d3, d4, d5] }
  | _ => none }
def fnWrittenIsReadRow : OpenClaim := { program := "ytddnjdapdcopgaadoor", sum := "744f715f50bdbec5179630854808bf66ad17425af3da503e8f73a7ff39435929", func := "mailtexts/laws.FnWrittenIsRead", spec := "fnWrittenIsRead", inPlace := ["internal/bytealg.IndexByte"], unfollowed := true, recurses := true, named := ["io.EOF", "bufio.ErrNegativeCount", "bufio.ErrBufferFull", "bufio.errNegativeRead", "io.ErrNoProgress", "mailtexts/pub/textproto.errMessageTooLarge", "io.ErrUnexpectedEOF", "bufio.ErrInvalidUnreadByte"], apart := false, laid := [("io.EOF", laid_io_EOF), ("io.ErrUnexpectedEOF", laid_io_ErrUnexpectedEOF), ("io.ErrNoProgress", laid_io_ErrNoProgress), ("bufio.ErrInvalidUnreadByte", laid_bufio_ErrInvalidUnreadByte), ("bufio.ErrBufferFull", laid_bufio_ErrBufferFull), ("bufio.ErrNegativeCount", laid_bufio_ErrNegativeCount), ("bufio.errNegativeRead", laid_bufio_errNegativeRead), ("mailtexts/pub/textproto.errMessageTooLarge", laid_mailtexts_pub_textproto_errMessageTooLarge)] }
def FnWrittenIsReadSaid : Prop := fnWrittenIsReadRow.holds Tryd.pinned (OpenSpec.ofChange fnWrittenIsReadSpec)

/-- ITS FALSE NEIGHBOUR: 'it returns false'. Refute it at one input. -/
def fnWrittenIsReadWrong : ChangeSpec := { name := "fnWrittenIsRead", fn := fun _ => fun
  | [d1, d2, d3, d4, d5] => { results := [.lit (.bool false)], args := [d1, d2, d3, d4, d5] }
  | _ => none }
def FnWrittenIsReadWrongFalsely : Prop := fnWrittenIsReadRow.holds Tryd.pinned (OpenSpec.ofChange fnWrittenIsReadWrong)

/- THE SECOND FORM. 'bulk': how many values and letters a reading holds, each counted each time it is reached (what is shared counts as often as it is met; a slice's spare places count too). A statement '..UptoSaid' is the law's where the arguments, and the package variables that the reading takes, are together of bulk at most 1048576: NARROWER than '..Said'. Prove '..Said' where nothing that the law and all that it calls make is longer than what came in: it says more and counts as full. Else prove '..UptoSaid'. A law counts once. -/
mutual
def uptoBulk {H : Type} : DataW H → Nat
  | .lit (.string bytes) => bytes.length + 1
  | .lit _ => 1
  | .nil => 1
  | .ptr d => uptoBulk d + 1
  | .slice elems spare => uptoBulkAll elems + uptoBulkAll spare + 1
  | .agg parts => uptoBulkAll parts + 1
  | .iface _ d => uptoBulk d + 1
  | .map entries => uptoBulkEntries entries + 1
  | .held _ => 1
def uptoBulkAll {H : Type} : List (DataW H) → Nat
  | [] => 0
  | d :: r => uptoBulk d + uptoBulkAll r
def uptoBulkEntries {H : Type} : List (Lit × DataW H) → Nat
  | [] => 0
  | x :: r => uptoBulkEntry x + uptoBulkEntries r
def uptoBulkEntry {H : Type} : Lit × DataW H → Nat
  | (.string bytes, d) => bytes.length + uptoBulk d + 1
  | (_, d) => uptoBulk d + 1
 end
def uptoSmall : (H : Type) → List (DataW H) → Bool := fun _ ds => decide (uptoBulkAll ds ≤ 1048576)
def OpenSpec.upto (s : _root_.Go.ChangeSpec) : _root_.Go.OpenSpec := { _root_.Go.OpenSpec.ofChange s with cond := some uptoSmall }

/-- 'laws.FnMessage', WHERE WHAT IT READS IS OF BULK AT MOST 1048576: true; the input reads as it did. -/
def fnMessageUptoRow : OpenClaim := { program := "ytddnjdapdcopgaadoor", sum := "744f715f50bdbec5179630854808bf66ad17425af3da503e8f73a7ff39435929", func := "mailtexts/laws.FnMessage", spec := "fnMessage", inPlace := ["internal/bytealg.IndexByte"], unfollowed := true, recurses := true, named := ["io.EOF", "bufio.ErrNegativeCount", "bufio.ErrBufferFull", "bufio.errNegativeRead", "io.ErrNoProgress", "mailtexts/pub/textproto.errMessageTooLarge", "io.ErrUnexpectedEOF", "bufio.ErrInvalidUnreadByte"], apart := false, laid := [("io.EOF", laid_io_EOF), ("io.ErrUnexpectedEOF", laid_io_ErrUnexpectedEOF), ("io.ErrNoProgress", laid_io_ErrNoProgress), ("bufio.ErrInvalidUnreadByte", laid_bufio_ErrInvalidUnreadByte), ("bufio.ErrBufferFull", laid_bufio_ErrBufferFull), ("bufio.ErrNegativeCount", laid_bufio_ErrNegativeCount), ("bufio.errNegativeRead", laid_bufio_errNegativeRead), ("mailtexts/pub/textproto.errMessageTooLarge", laid_mailtexts_pub_textproto_errMessageTooLarge)], narrowed := true }
def FnMessageUptoSaid : Prop := fnMessageUptoRow.holds Tryd.pinned (OpenSpec.upto fnMessageSpec)

/-- 'laws.FnWrittenIsRead', WHERE WHAT IT READS IS OF BULK AT MOST 1048576: true; the input reads as it did. -/
def fnWrittenIsReadUptoRow : OpenClaim := { program := "ytddnjdapdcopgaadoor", sum := "744f715f50bdbec5179630854808bf66ad17425af3da503e8f73a7ff39435929", func := "mailtexts/laws.FnWrittenIsRead", spec := "fnWrittenIsRead", inPlace := ["internal/bytealg.IndexByte"], unfollowed := true, recurses := true, named := ["io.EOF", "bufio.ErrNegativeCount", "bufio.ErrBufferFull", "bufio.errNegativeRead", "io.ErrNoProgress", "mailtexts/pub/textproto.errMessageTooLarge", "io.ErrUnexpectedEOF", "bufio.ErrInvalidUnreadByte"], apart := false, laid := [("io.EOF", laid_io_EOF), ("io.ErrUnexpectedEOF", laid_io_ErrUnexpectedEOF), ("io.ErrNoProgress", laid_io_ErrNoProgress), ("bufio.ErrInvalidUnreadByte", laid_bufio_ErrInvalidUnreadByte), ("bufio.ErrBufferFull", laid_bufio_ErrBufferFull), ("bufio.ErrNegativeCount", laid_bufio_ErrNegativeCount), ("bufio.errNegativeRead", laid_bufio_errNegativeRead), ("mailtexts/pub/textproto.errMessageTooLarge", laid_mailtexts_pub_textproto_errMessageTooLarge)], narrowed := true }
def FnWrittenIsReadUptoSaid : Prop := fnWrittenIsReadUptoRow.holds Tryd.pinned (OpenSpec.upto fnWrittenIsReadSpec)

end Rows
end Go.Proofs.YtddnjdapdcopgaaDoor
