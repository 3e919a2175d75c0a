/- bytes.NewReader, bufio.NewReader, textproto.NewReader, ReadMessage: the walks. -/
import Derived.Test.YtddnjdapdcopgaaDoorNewR
namespace Go.Proofs.YtddnjdapdcopgaaDoor
open Go.RowKit
open Go.Maps (Keyed)
open Go.ChangeMaps Go.Maps Go.WideMaps

theorem bytesNewReader_any (p : Option Addr) (n cap : Nat) (w : World) :
    Calls Tryd.prog 16 #[.slice p n cap] w fun e w' => ∃ S, e = .returned (.pointer (some ⟨S, 0, none⟩)) ∧ w.heap.size ≤ S ∧ Only [] w w' ∧ ∃ pv, Ob w' S 74 (rdS (.slice p n cap) 0 pv) := by
  go_enter Tryd.func16, Tryd.ntmps16
  go_wp2_with fail
  go_ret
  exact ⟨_, rfl, Nat.le_refl _, Only.of_below ((Below.refl _ _).alloc (Nat.le_refl _) _), -1, heap_alloc_new w _⟩

theorem newReader_any (S : Nat) (w : World) :
    Calls Tryd.prog 21 #[.iface 46 (.pointer (some ⟨S, 0, none⟩))] w fun e w' =>
      ∃ R F, e = .returned (.pointer (some ⟨R, 0, none⟩)) ∧ w.heap.size ≤ R ∧ w.heap.size ≤ F ∧ R ≠ F ∧ Only [] w w' ∧ Ob w' F 5 (Lib.byteCells (nulls 4096)) ∧ Ob w' R 85 [.slice (some ⟨F, 0, none⟩) 4096 4096, .iface 46 (.pointer (some ⟨S, 0, none⟩)), .int .i64 0, .int .i64 0, .nilIface, .int .i64 (-1), .int .i64 (-1)] := by
  have hn := hidF (newReaderSize_any S w)
  go_enter Tryd.func21, Tryd.ntmps21
  go_wp2_with fail
  refine hn.out.mono ?_
  rintro e w1 ⟨R, F, rfl, h⟩
  have H := hidF h
  clear h hn
  go_wp2_with fail
  go_ret
  exact ⟨R, F, rfl, H.out⟩

theorem tpNewReader_any (R : Nat) (w : World) :
    Calls Tryd.prog 20 #[.pointer (some ⟨R, 0, none⟩)] w fun e w' => ∃ T, e = .returned (.pointer (some ⟨T, 0, none⟩)) ∧ w.heap.size ≤ T ∧ Only [] w w' ∧ Ob w' T 72 [.pointer (some ⟨R, 0, none⟩), .pointer none, .slice none 0 0] := by
  go_enter Tryd.func20, Tryd.ntmps20
  go_wp2_with fail
  go_ret
  exact ⟨_, rfl, Nat.le_refl _, Only.of_below ((Below.refl _ _).alloc (Nat.le_refl _) _), heap_alloc_new w _⟩
end Go.Proofs.YtddnjdapdcopgaaDoor
