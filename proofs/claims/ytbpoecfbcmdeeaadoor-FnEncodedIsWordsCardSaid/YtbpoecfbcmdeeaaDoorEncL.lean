/- base64's EncodedLen and NewEncoder: the walks. -/
import Derived.Test.YtbpoecfbcmdeeaaDoorEncB
namespace Go.Proofs.YtbpoecfbcmdeeaaDoor
open Go.RowKit

theorem EncodedLen_any (b n : Nat) (w : World) (hn : n ≤ 1000000) (h : EncAt w b) :
    Calls Tryd.prog 58 #[.pointer (some ⟨b, 0, none⟩), .int .i64 n] w fun e w' => e = .returned (.int .i64 (((n + 2) / 3 * 4 : Nat) : Int)) ∧ w = w' := by
  have hp := encAt_pad h
  go_enter Tryd.func58, Tryd.ntmps58
  go_wp2_with fail
  go_ret
  exact ⟨rfl, rfl⟩

/-- The encoder's cells: no fault, the alphabet's block, the writer, three bytes, their number, the room. -/
def encS (b wb : Nat) (x0 x1 x2 : Value) (nb : Nat) (out : List Value) : List Value :=
  .nilIface :: .pointer (some ⟨b, 0, none⟩) :: .iface 62 (.pointer (some ⟨wb, 0, none⟩)) :: x0 :: x1 :: x2 :: .int .i64 (nb : Int) :: out
def outZ : List Value := List.replicate 1024 (.int .u8 0)
theorem encS_zero (b wb : Nat) : (Tryd.zeroCells117.setIfInBounds 1 (.pointer (some ⟨b, 0, none⟩))).setIfInBounds 2 (.iface 62 (.pointer (some ⟨wb, 0, none⟩))) = (encS b wb (.int .u8 0) (.int .u8 0) (.int .u8 0) 0 outZ).toArray := by kernel_rfl

theorem NewEncoder_any (b wb : Nat) (w : World) :
    Calls Tryd.prog 56 #[.pointer (some ⟨b, 0, none⟩), .iface 62 (.pointer (some ⟨wb, 0, none⟩))] w fun e w' =>
      e = .returned (.iface 113 (.pointer (some ⟨w.heap.size, 0, none⟩))) ∧ Below w.heap.size w w' ∧ w'.heap.size = w.heap.size + 1 ∧ Ob w' w.heap.size 117 (encS b wb (.int .u8 0) (.int .u8 0) (.int .u8 0) 0 outZ) := by
  go_enter Tryd.func56, Tryd.ntmps56
  go_wp2_with fail
  go_ret
  refine ⟨rfl, (Below.refl _ _).alloc (Nat.le_refl _) _, by simp, ?_⟩
  rw [encS_zero]
  show (w.heap.push _)[w.heap.size]? = _
  rw [Array.getElem?_push_size]
end Go.Proofs.YtbpoecfbcmdeeaaDoor
