/- bufio.NewReader, textproto.NewReader: the walks. -/
import Derived.Test.YtddnjdapdcopgaaDoorRh
import Derived.Laws.OwnMore
namespace Go.Proofs.YtddnjdapdcopgaaDoor
open Go.RowKit

/-- The buffer's first cells. -/
def nulls (n : Nat) : List UInt8 := List.replicate n 0
theorem nulls_length (n : Nat) : (nulls n).length = n := List.length_replicate

set_option maxHeartbeats 4000000 in
set_option maxRecDepth 100000 in
theorem reset_any (R F S : Nat) (C : List Value) (w : World) (hR : Ob w R 85 C) (hC : C.length = 7) :
    Calls Tryd.prog 31 #[.pointer (some ⟨R, 0, none⟩), .slice (some ⟨F, 0, none⟩) 4096 4096, .iface 46 (.pointer (some ⟨S, 0, none⟩))] w fun e w' =>
      e = .returned (.tuple #[]) ∧ Only [R] w w' ∧ Ob w' R 85 [.slice (some ⟨F, 0, none⟩) 4096 4096, .iface 46 (.pointer (some ⟨S, 0, none⟩)), .int .i64 0, .int .i64 0, .nilIface, .int .i64 (-1), .int .i64 (-1)] := by
  match C, hC with
  | [c0, c1, c2, c3, c4, c5, c6], _ =>
  have hlt := hR.lt
  have q0 := hR.cell 0 _ rfl
  have q1 := hR.cell 1 _ rfl
  have q2 := hR.cell 2 _ rfl
  have q3 := hR.cell 3 _ rfl
  have q4 := hR.cell 4 _ rfl
  have q5 := hR.cell 5 _ rfl
  have q6 := hR.cell 6 _ rfl
  have f0 := hR.free 0
  have f1 := hR.free 1
  have f2 := hR.free 2
  have f3 := hR.free 3
  have f4 := hR.free 4
  have f5 := hR.free 5
  have f6 := hR.free 6
  go_enter Tryd.func31, Tryd.ntmps31
  go_wp2_with fail
  go_end0
  refine ⟨rfl, ?_, ?_⟩
  · exact (((((((Only.set _ R 0 _).trans (Only.set _ R 1 _)).trans (Only.set _ R 2 _)).trans (Only.set _ R 3 _)).trans (Only.set _ R 4 _)).trans (Only.set _ R 5 _)).trans (Only.set _ R 6 _))
  · exact ((((((hR.set 0 _).set 1 _).set 2 _).set 3 _).set 4 _).set 5 _).set 6 _

theorem not_bufio (S : Nat) (w : World) : (Instr.typeAssert (.iface 46 (.pointer (some ⟨S, 0, none⟩))) 52 66 true).run Tryd.prog w = .ok (.tuple #[.pointer none, .bool false]) w := by kernel_rfl

theorem make_bytes (D : Nat) (hD : D ≤ 1000000) (w : World) : (Instr.makeSlice 22 (.int .i64 (D : Int)) (.int .i64 (D : Int))).run Tryd.prog w = .ok (.slice (some ⟨w.heap.size, 0, none⟩) D D) (w.alloc (.cells (Lib.byteCells (nulls D)).toArray 5)) := by
  obtain ⟨i0, hi, hz0, hz1, hz2⟩ := info_parts infoByteB
  have e : madeCells (Value.int .u8 0).cells D = (Lib.byteCells (nulls D)).toArray := by
    apply Array.toList_inj.1
    have h := toList_madeCells_one (Value.int .u8 0) D
    refine h.trans ?_
    simp [Lib.byteCells, nulls]
  have h := run_makeSlice (P := Tryd.prog) w 22 5 i0 (.int .u8 0) Tryd.underlying22 hi hz0 .i64 .i64 (D : Int) (D : Int) (by omega) (by omega) (by rw [hz1]; omega) (by rw [hz2]; omega) (by omega)
  rw [hz1, Nat.mul_one, Int.toNat_natCast, e] at h
  exact h

set_option maxHeartbeats 4000000 in
set_option maxRecDepth 100000 in
theorem newReaderSize_any (S : Nat) (w : World) :
    Calls Tryd.prog 23 #[.iface 46 (.pointer (some ⟨S, 0, none⟩)), .int .i64 4096] w fun e w' =>
      ∃ R F, e = .returned (.pointer (some ⟨R, 0, none⟩)) ∧ w.heap.size ≤ R ∧ w.heap.size ≤ F ∧ R ≠ F ∧ Only [] w w' ∧ Ob w' F 5 (Lib.byteCells (nulls 4096)) ∧ Ob w' R 85 [.slice (some ⟨F, 0, none⟩) 4096 4096, .iface 46 (.pointer (some ⟨S, 0, none⟩)), .int .i64 0, .int .i64 0, .nilIface, .int .i64 (-1), .int .i64 (-1)] := by
  have hta := fun W => not_bufio S W
  have hmx : max (4096 : Int) 16 = 4096 := rfl
  have hmk := fun W => make_bytes 4096 (by decide) W
  simp only [Int.cast_ofNat_Int] at hmk
  go_enter Tryd.func23, Tryd.ntmps23
  go_wp2_with fail
  have H0 : Ob (w.alloc (.cells #[.slice none 0 0, .nilIface, .int .i64 0, .int .i64 0, .nilIface, .int .i64 0, .int .i64 0] 85)) w.heap.size 85 [.slice none 0 0, .nilIface, .int .i64 0, .int .i64 0, .nilIface, .int .i64 0, .int .i64 0] := heap_alloc_new w _
  have k1 : Only [] w (w.alloc (.cells #[.slice none 0 0, .nilIface, .int .i64 0, .int .i64 0, .nilIface, .int .i64 0, .int .i64 0] 85)) := Only.of_below ((Below.refl _ _).alloc (Nat.le_refl _) _)
  have hs1 : (w.alloc (.cells #[.slice none 0 0, .nilIface, .int .i64 0, .int .i64 0, .nilIface, .int .i64 0, .int .i64 0] 85)).heap.size = w.heap.size + 1 := by simp
  generalize w.alloc (.cells #[.slice none 0 0, .nilIface, .int .i64 0, .int .i64 0, .nilIface, .int .i64 0, .int .i64 0] 85) = w1 at *
  have k2 : Only [] w1 (w1.alloc (.cells (Lib.byteCells (nulls 4096)).toArray 5)) := Only.of_below ((Below.refl _ _).alloc (Nat.le_refl _) _)
  have H1 : Ob (w1.alloc (.cells (Lib.byteCells (nulls 4096)).toArray 5)) w1.heap.size 5 (Lib.byteCells (nulls 4096)) := heap_alloc_new w1 _
  have H0' := H0.only k2 (by simp)
  rw [hs1] at H1
  generalize w1.alloc (.cells (Lib.byteCells (nulls 4096)).toArray 5) = w2 at *
  refine (reset_any w.heap.size (w.heap.size + 1) S _ w2 H0' rfl).mono ?_
  rintro e w3 ⟨rfl, k3, hob⟩
  have HF := hidF (show Only [] w w3 ∧ Ob w3 (w.heap.size + 1) 5 (Lib.byteCells (nulls 4096)) ∧ Ob w3 w.heap.size 85 [.slice (some ⟨w.heap.size + 1, 0, none⟩) 4096 4096, .iface 46 (.pointer (some ⟨S, 0, none⟩)), .int .i64 0, .int .i64 0, .nilIface, .int .i64 (-1), .int .i64 (-1)] from
    ⟨(k1.trans k2).fresh k3 (fun x hx => by obtain rfl := List.mem_singleton.1 hx; exact .inl (Nat.le_refl _)), H1.only k3 (by simp), hob⟩)
  clear k1 k2 k3 H0 H0' H1 hob
  go_wp2_with fail
  go_ret
  exact ⟨_, _, rfl, Nat.le_refl _, by omega, by omega, HF.out.1, HF.out.2.1, HF.out.2.2⟩
end Go.Proofs.YtddnjdapdcopgaaDoor
