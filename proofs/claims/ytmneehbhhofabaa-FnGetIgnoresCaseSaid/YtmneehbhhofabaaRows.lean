/-
  No cell of these rows narrows 'for every input' (looked for: loops, veiled, ifaces, maps, wideKeys, modest, calm, conditions, laid).
  DERIVED. THE GIVEN ROWS OF THIS SEAT. 2 by the template 'for every input the law returns true; each argument reads behind the call as it read before'; 0 by the template 'total and deterministic' (their statements: YtmneehbhhofabaaTotals.lean).
  GIVEN WITH THE SEED: the statements are not yours to turn. If you find one false, say at which input.
  Laid BY PROGRAM, IN A SANDBOX (cutbox-rows.mjs): the forced cells as the released guide's own fill.sh prints them over the translation c8df5f9d13d431bf… (all of the seat's roots in one cut). By AI agents, Wed Nov 11 2026. No macro, syntax, notation, axiom, sorry.
-/
import Derived.Test.YtmneehbhhofabaaChecked
import GoSem.Claim
import GoSem.ClaimJoined
import GoSem.ClaimMapViews
import Derived.JoinedTies
import Derived.KernelRfl
namespace Go.Proofs.Ytmneehbhhofabaa
/- THE CELL 'sum', in the pinned program and in every row, IS THE sha256 OF THE DUMP (.gsa) THAT YtmneehbhhofabaaProg.lean LOADS. Nothing in Lean hashes anything: it is a label: what it is worth is what the hold of that sum in a sandbox is worth. -/
noncomputable def Try.pinned : Pinned := { name := "ytmneehbhhofabaa", sum := "c8df5f9d13d431bfd08ee6b9d5ba38016e8e355f8a92c0b0b0a70e721be29e7d", checked := Try.checked }
namespace Rows
def none {H : Type} : Left H := { results := [], args := [] }

/-- 'laws.FnSpaceIsSkipped': WHATEVER THE INPUT: true; the input reads as it did. -/
def fnSpaceIsSkippedSpec : ChangeSpec := { name := "fnSpaceIsSkipped", fn := fun _ => fun
  | [d] => { results := [.lit (.bool true)], args := [d] }
  | _ => none }
def fnSpaceIsSkippedRow : OpenClaim := { program := "ytmneehbhhofabaa", sum := "c8df5f9d13d431bfd08ee6b9d5ba38016e8e355f8a92c0b0b0a70e721be29e7d", func := "mailtexts/laws.FnSpaceIsSkipped", spec := "fnSpaceIsSkipped", inPlace := ["internal/abi.NoEscape"], apart := false }
def FnSpaceIsSkippedSaid : Prop := fnSpaceIsSkippedRow.holds Try.pinned (OpenSpec.ofChange fnSpaceIsSkippedSpec)

/-- ITS FALSE NEIGHBOUR: 'it returns false'. Refute it at one input. -/
def fnSpaceIsSkippedWrong : ChangeSpec := { name := "fnSpaceIsSkipped", fn := fun _ => fun
  | [d] => { results := [.lit (.bool false)], args := [d] }
  | _ => none }
def FnSpaceIsSkippedWrongFalsely : Prop := fnSpaceIsSkippedRow.holds Try.pinned (OpenSpec.ofChange fnSpaceIsSkippedWrong)

/-- 'laws.FnGetIgnoresCase': WHATEVER THE INPUT: true; the input reads as it did. -/
def fnGetIgnoresCaseSpec : ChangeSpec := { name := "fnGetIgnoresCase", fn := fun _ => fun
  | [d1, d2, d3] => { results := [.lit (.bool true)], args := [d1, d2, d3] }
  | _ => none }
def fnGetIgnoresCaseRow : OpenClaim := { program := "ytmneehbhhofabaa", sum := "c8df5f9d13d431bfd08ee6b9d5ba38016e8e355f8a92c0b0b0a70e721be29e7d", func := "mailtexts/laws.FnGetIgnoresCase", spec := "fnGetIgnoresCase", apart := false }
def FnGetIgnoresCaseSaid : Prop := fnGetIgnoresCaseRow.holds Try.pinned (OpenSpec.ofChange fnGetIgnoresCaseSpec)

/-- ITS FALSE NEIGHBOUR: 'it returns false'. Refute it at one input. -/
def fnGetIgnoresCaseWrong : ChangeSpec := { name := "fnGetIgnoresCase", fn := fun _ => fun
  | [d1, d2, d3] => { results := [.lit (.bool false)], args := [d1, d2, d3] }
  | _ => none }
def FnGetIgnoresCaseWrongFalsely : Prop := fnGetIgnoresCaseRow.holds Try.pinned (OpenSpec.ofChange fnGetIgnoresCaseWrong)

/- THE SECOND FORM. 'bulk': how many values and letters a reading holds, each counted each time it is reached (what is shared counts as often as it is met; a slice's spare places count too). A statement '..UptoSaid' is the law's where the arguments, and the package variables that the reading takes, are together of bulk at most 1048576: NARROWER than '..Said'. Prove '..Said' where nothing that the law and all that it calls make is longer than what came in: it says more and counts as full. Else prove '..UptoSaid'. A law counts once. -/
mutual
def uptoBulk {H : Type} : DataW H → Nat
  | .lit (.string bytes) => bytes.length + 1
  | .lit _ => 1
  | .nil => 1
  | .ptr d => uptoBulk d + 1
  | .slice elems spare => uptoBulkAll elems + uptoBulkAll spare + 1
  | .agg parts => uptoBulkAll parts + 1
  | .iface _ d => uptoBulk d + 1
  | .map entries => uptoBulkEntries entries + 1
  | .held _ => 1
def uptoBulkAll {H : Type} : List (DataW H) → Nat
  | [] => 0
  | d :: r => uptoBulk d + uptoBulkAll r
def uptoBulkEntries {H : Type} : List (Lit × DataW H) → Nat
  | [] => 0
  | x :: r => uptoBulkEntry x + uptoBulkEntries r
def uptoBulkEntry {H : Type} : Lit × DataW H → Nat
  | (.string bytes, d) => bytes.length + uptoBulk d + 1
  | (_, d) => uptoBulk d + 1
 end
def uptoSmall : (H : Type) → List (DataW H) → Bool := fun _ ds => decide (uptoBulkAll ds ≤ 1048576)
def OpenSpec.upto (s : _root_.Go.ChangeSpec) : _root_.Go.OpenSpec := { _root_.Go.OpenSpec.ofChange s with cond := some uptoSmall }

/-- 'laws.FnSpaceIsSkipped', WHERE WHAT IT READS IS OF BULK AT MOST 1048576: true; the input reads as it did. -/
def fnSpaceIsSkippedUptoRow : OpenClaim := { program := "ytmneehbhhofabaa", sum := "c8df5f9d13d431bfd08ee6b9d5ba38016e8e355f8a92c0b0b0a70e721be29e7d", func := "mailtexts/laws.FnSpaceIsSkipped", spec := "fnSpaceIsSkipped", inPlace := ["internal/abi.NoEscape"], apart := false, narrowed := true }
def FnSpaceIsSkippedUptoSaid : Prop := fnSpaceIsSkippedUptoRow.holds Try.pinned (OpenSpec.upto fnSpaceIsSkippedSpec)

/-- 'laws.FnGetIgnoresCase', WHERE WHAT IT READS IS OF BULK AT MOST 1048576: true; the input reads as it did. -/
def fnGetIgnoresCaseUptoRow : OpenClaim := { program := "ytmneehbhhofabaa", sum := "c8df5f9d13d431bfd08ee6b9d5ba38016e8e355f8a92c0b0b0a70e721be29e7d", func := "mailtexts/laws.FnGetIgnoresCase", spec := "fnGetIgnoresCase", apart := false, narrowed := true }
def FnGetIgnoresCaseUptoSaid : Prop := fnGetIgnoresCaseUptoRow.holds Try.pinned (OpenSpec.upto fnGetIgnoresCaseSpec)

end Rows
end Go.Proofs.Ytmneehbhhofabaa
