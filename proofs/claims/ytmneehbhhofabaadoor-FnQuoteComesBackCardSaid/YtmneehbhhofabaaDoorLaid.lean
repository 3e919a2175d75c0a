/- The two tables of unicode/utf8: from the row's cell to the contracts' condition; the witness's world. -/
import Derived.Test.YtmneehbhhofabaaDoorRows
import Derived.Test.YtmneehbhhofabaaDoorShelf
import Derived.Lib.LaidU8T
import Derived.ProofKit
import Derived.LaidMore
import Derived.Lay
import Derived.SevenTiedAt
import Derived.Stop.Joined
namespace Go.Proofs.YtmneehbhhofabaaDoor
open Go.RowKit

def laid2 : List (String × DataW Unit) := [("unicode/utf8.acceptRanges", Rows.laid_unicode_utf8_acceptRanges), ("unicode/utf8.first", Rows.laid_unicode_utf8_first)]

theorem firstIs : Rows.laid_unicode_utf8_first = Lib.firstData := by kernel_rfl
theorem acceptIs : (Rows.laid_unicode_utf8_acceptRanges : DataW Unit) = Lib.acceptData := by kernel_rfl

theorem tabs_of {W : World} (h : laidMetH Tryd.prog laid2 W) : Lib.Utf8Tabs 0 1 W := by
  rw [MakeChecks.laidMetH_plain _ _ _ (by kernel_rfl)] at h
  have h1 := Lib.laidMet.reads h (n := "unicode/utf8.acceptRanges") (.head _)
  have h2 := Lib.laidMet.reads h (n := "unicode/utf8.first") (.tail _ (.head _))
  rw [acceptIs] at h1
  rw [firstIs] at h2
  exact utf8Tabs_of_readsT (U8Types.of196 Tryd.laysValid) ⟨by kernel_rfl, by kernel_rfl, by kernel_rfl, by kernel_rfl, by kernel_rfl, by kernel_rfl, by kernel_rfl⟩ h2 h1

theorem door_met (os : Os) (args : Array Value) : laidMetH Tryd.prog laid2 ((World.laidAll Tryd.prog os laid2).forCall (fun _ _ => 0) ⟨#[], args, []⟩).memory := by
  rw [MakeChecks.laidMetH_plain _ _ _ (by kernel_rfl)]
  exact laidMet_laidAll _ (by kernel_rfl) (by kernel_rfl)

theorem own : ownKnob Tryd.prog.godebug = none := by kernel_rfl
end Go.Proofs.YtmneehbhhofabaaDoor
