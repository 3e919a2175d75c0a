/- impl.Quoted over a quoted text: the walk. -/
import Derived.Test.YtmneehbhhofabaaDoorQuoted
import Derived.Test.YtmneehbhhofabaaDoorAtomUp
namespace Go.Proofs.YtmneehbhhofabaaDoor
open Go.RowKit

set_option maxHeartbeats 1000000 in
theorem mailQuoted_any (s : ByteArray) (text q z : List UInt8) (w : World) (hs : s.size ≤ 1000000000) (hq : s.data.toList = 34 :: (q ++ 34 :: z)) (hE : Esc text q) (hv : Lib.validD text = true) (hT : Lib.Utf8Tabs 0 1 w) :
    Calls Tryd.prog 14 #[.string s] w fun e w' => e = .returned (.tuple #[.string (mkB text), .string (mkB z), .bool true]) ∧ Below w.heap.size w w' := by
  have hT2 := utf8_below hT ((Below.refl w.heap.size w).alloc (Nat.le_refl _) (.cells #[.string s, .pointer none] 42))
  have hcall := hidF (consumeQuoted_any w.heap.size s text q z _ (PAt.made w s) hs hq hE hv hT2)
  clear hq hE hv hT2
  go_enter Tryd.func14, Tryd.ntmps14
  go_wp2_with fail
  refine hcall.out.mono ?_
  rintro e w1 ⟨rfl, hP, hg⟩
  have hb := ((Below.refl w.heap.size w).alloc (Nat.le_refl _) (.cells #[.string s, .pointer none] 42)).trans (below_grown hg (Nat.le_refl _) (by simp))
  have hc := hP.cell
  clear hg hcall
  go_wp2_with fail
  go_quiet (fail)
  go_wp2_with fail
  go_ret3
  exact ⟨rfl, below_drewN hb _⟩

set_option maxHeartbeats 1000000 in
theorem implQuoted_any (s : ByteArray) (text q z : List UInt8) (w : World) (hs : s.size ≤ 1000000000) (hq : s.data.toList = 34 :: (q ++ 34 :: z)) (hE : Esc text q) (hv : Lib.validD text = true) (hT : Lib.Utf8Tabs 0 1 w) :
    Calls Tryd.prog 8 #[.string s] w fun e w' => e = .returned (.tuple #[.string (mkB text), .string (mkB z), .bool true]) ∧ Below w.heap.size w w' := by
  have hcall := hidF (mailQuoted_any s text q z w hs hq hE hv hT)
  clear hq hE hv
  go_enter Tryd.func8, Tryd.ntmps8
  go_wp2_with fail
  refine hcall.out.mono ?_
  rintro e w1 ⟨rfl, hb⟩
  clear hcall
  go_wp2_with fail
  go_ret3
  exact ⟨rfl, hb⟩
end Go.Proofs.YtmneehbhhofabaaDoor
