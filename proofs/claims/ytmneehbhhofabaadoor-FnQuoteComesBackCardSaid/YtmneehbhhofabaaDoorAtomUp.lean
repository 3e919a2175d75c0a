/- impl.Atom over texts of UTF-8: the walk. -/
import Derived.Test.YtmneehbhhofabaaDoorAtom
namespace Go.Proofs.YtmneehbhhofabaaDoor
open Go.RowKit

/-- What Atom hands back. -/
def AtomOut (s : ByteArray) (dot perm : Bool) (w : World) (e : Ending) (w' : World) : Prop :=
  Below w.heap.size w w' ∧
  ((atomRes s dot perm = true ∧ e = .returned (.tuple #[.string (mkB (s.data.toList.take (runLen dot s.data.toList))), .string (mkB (s.data.toList.drop (runLen dot s.data.toList))), .bool true])) ∨
   (atomRes s dot perm = false ∧ ∃ x y : ByteArray, e = .returned (.tuple #[.string x, .string y, .bool false])))

set_option maxHeartbeats 1000000 in
theorem mailAtom_any (s : ByteArray) (dot perm : Bool) (w : World) (hs : s.size ≤ 1000000000) (hv : Lib.validD s.data.toList = true) (hT : Lib.Utf8Tabs 0 1 w) :
    Calls Tryd.prog 15 #[.string s, .bool dot, .bool perm] w (AtomOut s dot perm w) := by
  have hT2 := utf8_below hT ((Below.refl w.heap.size w).alloc (Nat.le_refl _) (.cells #[.string s, .pointer none] 42))
  go_enter Tryd.func15, Tryd.ntmps15
  go_wp2_with fail
  refine (consumeAtom_any w.heap.size s dot perm _ (PAt.made w s) hs hv hT2).mono ?_
  intro e w1 hpost
  have hbw := fun (hg : (w.alloc (.cells #[.string s, .pointer none] 42)).grownBy w1 (some w.heap.size)) => ((Below.refl w.heap.size w).alloc (Nat.le_refl _) (.cells #[.string s, .pointer none] 42)).trans (below_grown hg (Nat.le_refl _) (by simp))
  rcases hpost with ⟨hres, rfl, hP, hg⟩ | ⟨hres, a, t, rfl, hP, hg⟩
  · have hb := hbw hg
    have hc := hP.cell
    have Hres := hidF hres
    clear hres hbw hg
    go_wp2_with fail
    go_quiet (fail)
    go_wp2_with fail
    go_ret3
    exact ⟨below_drewN hb _, .inl ⟨Hres.out, rfl⟩⟩
  · have hb := hbw hg
    have hc := hP.cell
    have Hres := hidF hres
    clear hres hbw hg
    go_wp2_with fail
    go_quiet (fail)
    go_wp2_with fail
    go_ret3
    exact ⟨below_drewN hb _, .inr ⟨Hres.out, _, _, rfl⟩⟩

set_option maxHeartbeats 1000000 in
theorem implAtom_any (s : ByteArray) (dot perm : Bool) (w : World) (hs : s.size ≤ 1000000000) (hv : Lib.validD s.data.toList = true) (hT : Lib.Utf8Tabs 0 1 w) :
    Calls Tryd.prog 10 #[.string s, .bool dot, .bool perm] w (AtomOut s dot perm w) := by
  go_enter Tryd.func10, Tryd.ntmps10
  go_wp2_with fail
  refine (mailAtom_any s dot perm _ hs hv hT).mono ?_
  rintro e w1 ⟨hb, hpost⟩
  rcases hpost with ⟨hres, rfl⟩ | ⟨hres, x, y, rfl⟩
  · have Hres := hidF hres
    clear hres
    go_wp2_with fail
    go_ret3
    exact ⟨hb, .inl ⟨Hres.out, rfl⟩⟩
  · have Hres := hidF hres
    clear hres
    go_wp2_with fail
    go_ret3
    exact ⟨hb, .inr ⟨Hres.out, _, _, rfl⟩⟩

end Go.Proofs.YtmneehbhhofabaaDoor
