/- byteorder's BEPutUint32, BEPutUint64, base64's decodedLen: the walks. -/
import Derived.Test.YtbpoecfbcmdeeaaDoorAsm
namespace Go.Proofs.YtbpoecfbcmdeeaaDoor
open Go.RowKit

theorem setCells4 (w : World) (g o : Nat) (a b c d : Value) : w.setCells g o [a, b, c, d] = (((w.setCell ⟨g, o, none⟩ a).setCell ⟨g, o + 1, none⟩ b).setCell ⟨g, o + 2, none⟩ c).setCell ⟨g, o + 3, none⟩ d := rfl
theorem setCells8 (w : World) (g o : Nat) (a b c d e f k h : Value) : w.setCells g o [a, b, c, d, e, f, k, h] = (((((((w.setCell ⟨g, o, none⟩ a).setCell ⟨g, o + 1, none⟩ b).setCell ⟨g, o + 2, none⟩ c).setCell ⟨g, o + 3, none⟩ d).setCell ⟨g, o + 4, none⟩ e).setCell ⟨g, o + 5, none⟩ f).setCell ⟨g, o + 6, none⟩ k).setCell ⟨g, o + 7, none⟩ h := rfl

set_option maxHeartbeats 1000000 in
set_option maxRecDepth 100000 in
theorem put32_any (g o n cap : Nat) (V : Int) (x0 x1 x2 x3 : Value) (w : World) (hn : 4 ≤ n) (_hV : 0 ≤ V)
    (c0 : w.cell? ⟨g, o, none⟩ = some x0) (c1 : w.cell? ⟨g, o + 1, none⟩ = some x1) (c2 : w.cell? ⟨g, o + 2, none⟩ = some x2) (c3 : w.cell? ⟨g, o + 3, none⟩ = some x3)
    (f0 : w.frozen? ⟨g, o, none⟩ = false) (f1 : w.frozen? ⟨g, o + 1, none⟩ = false) (f2 : w.frozen? ⟨g, o + 2, none⟩ = false) (f3 : w.frozen? ⟨g, o + 3, none⟩ = false) :
    Calls Tryd.prog 79 #[.slice (some ⟨g, o, none⟩) n cap, .int .u32 V] w fun e w' => e = .returned (.tuple #[]) ∧ w' = w.setCells g o [.int .u8 (V / 16777216 % 256), .int .u8 (V / 65536 % 256), .int .u8 (V / 256 % 256), .int .u8 (V % 256)] := by
  have n0 : (0 : Int) < (n : Int) := by omega
  have n1 : (1 : Int) < (n : Int) := by omega
  have n2 : (2 : Int) < (n : Int) := by omega
  have n3 : (3 : Int) < (n : Int) := by omega
  go_enter Tryd.func79, Tryd.ntmps79
  go_wp2_with fail
  go_end0
  exact ⟨rfl, by rw [setCells4]⟩

set_option maxHeartbeats 1000000 in
set_option maxRecDepth 100000 in
theorem put64_any (g o n cap : Nat) (V : Int) (x0 x1 x2 x3 x4 x5 x6 x7 : Value) (w : World) (hn : 8 ≤ n) (_hV : 0 ≤ V)
    (c0 : w.cell? ⟨g, o, none⟩ = some x0) (c1 : w.cell? ⟨g, o + 1, none⟩ = some x1) (c2 : w.cell? ⟨g, o + 2, none⟩ = some x2) (c3 : w.cell? ⟨g, o + 3, none⟩ = some x3) (c4 : w.cell? ⟨g, o + 4, none⟩ = some x4) (c5 : w.cell? ⟨g, o + 5, none⟩ = some x5) (c6 : w.cell? ⟨g, o + 6, none⟩ = some x6) (c7 : w.cell? ⟨g, o + 7, none⟩ = some x7)
    (f0 : w.frozen? ⟨g, o, none⟩ = false) (f1 : w.frozen? ⟨g, o + 1, none⟩ = false) (f2 : w.frozen? ⟨g, o + 2, none⟩ = false) (f3 : w.frozen? ⟨g, o + 3, none⟩ = false) (f4 : w.frozen? ⟨g, o + 4, none⟩ = false) (f5 : w.frozen? ⟨g, o + 5, none⟩ = false) (f6 : w.frozen? ⟨g, o + 6, none⟩ = false) (f7 : w.frozen? ⟨g, o + 7, none⟩ = false) :
    Calls Tryd.prog 76 #[.slice (some ⟨g, o, none⟩) n cap, .int .u64 V] w fun e w' => e = .returned (.tuple #[]) ∧ w' = w.setCells g o [.int .u8 (V / 72057594037927936 % 256), .int .u8 (V / 281474976710656 % 256), .int .u8 (V / 1099511627776 % 256), .int .u8 (V / 4294967296 % 256), .int .u8 (V / 16777216 % 256), .int .u8 (V / 65536 % 256), .int .u8 (V / 256 % 256), .int .u8 (V % 256)] := by
  have n0 : (0 : Int) < (n : Int) := by omega
  have n1 : (1 : Int) < (n : Int) := by omega
  have n2 : (2 : Int) < (n : Int) := by omega
  have n3 : (3 : Int) < (n : Int) := by omega
  have n4 : (4 : Int) < (n : Int) := by omega
  have n5 : (5 : Int) < (n : Int) := by omega
  have n6 : (6 : Int) < (n : Int) := by omega
  have n7 : (7 : Int) < (n : Int) := by omega
  go_enter Tryd.func76, Tryd.ntmps76
  go_wp2_with fail
  go_end0
  exact ⟨rfl, by rw [setCells8]⟩


/-- Cells of bytes laid into a row. -/
theorem Row.puts {g : Nat} : ∀ (bs : List UInt8) (o : Nat) (w : World) (L : List UInt8), Row w g L → Row (w.setCells g o (Lib.byteCells bs)) g (bs.zipIdx.foldl (fun L p => L.set (o + p.2) p.1) L)
  | [], o, w, L, h => h
  | x :: r, o, w, L, h => by
    have h1 := Row.puts r (o + 1) _ _ (h.set o x)
    have e : ∀ (r : List UInt8) (k : Nat) (L : List UInt8), (r.zipIdx (k + 1)).foldl (fun L p => L.set (o + p.2) p.1) L = (r.zipIdx k).foldl (fun L p => L.set (o + 1 + p.2) p.1) L := by
      intro r
      induction r with
      | nil => intro k L; rfl
      | cons y s ih => intro k L; simp only [List.zipIdx_cons, List.foldl_cons]; rw [ih, show o + (k + 1) = o + 1 + k by omega]
    show Row ((w.setCell ⟨g, o, none⟩ (.int .u8 (x.toNat : Int))).setCells g (o + 1) (Lib.byteCells r)) g _
    simp only [List.zipIdx_cons, List.foldl_cons, Nat.add_zero]
    rw [e r 0]
    exact h1

theorem setCells_below {B : Nat} {w0 : World} (g : Nat) (hg : B ≤ g) : ∀ (vs : List Value) (o : Nat) (w : World), Below B w0 w → Below B w0 (w.setCells g o vs)
  | [], _, _, h => h
  | _ :: r, o, _, h => setCells_below g hg r (o + 1) _ (h.setCell (p := ⟨g, o, none⟩) hg _)
theorem setCells_size (g : Nat) : ∀ (vs : List Value) (o : Nat) (w : World), (w.setCells g o vs).heap.size = w.heap.size
  | [], _, _ => rfl
  | _ :: r, o, w => by rw [World.setCells, setCells_size g r]; simp [World.setCell]
theorem setCells_other (g k : Nat) (hk : k ≠ g) : ∀ (vs : List Value) (o : Nat) (w : World), (w.setCells g o vs).heap[k]? = w.heap[k]?
  | [], _, _ => rfl
  | _ :: r, o, w => by rw [World.setCells, setCells_other g k hk r]; exact heap_setCell_other _ _ _ _ hk

theorem decodedLen_any (n : Nat) (w : World) (hn : n ≤ 1000000) :
    Calls Tryd.prog 74 #[.int .i64 n, .int .i32 61] w fun e w' => e = .returned (.int .i64 ((n / 4 * 3 : Nat) : Int)) ∧ w = w' := by
  go_enter Tryd.func74, Tryd.ntmps74
  go_wp2_with fail
  go_ret
  exact ⟨rfl, rfl⟩

theorem encAt_pad {w : World} {b : Nat} (h : EncAt w b) : w.cell? ⟨b, 320, none⟩ = some (.int .i32 61) := by
  rw [cell_of_row w _ _ _ _ _ h]; kernel_rfl
theorem encAt_strict {w : World} {b : Nat} (h : EncAt w b) : w.cell? ⟨b, 321, none⟩ = some (.bool false) := by
  rw [cell_of_row w _ _ _ _ _ h]; kernel_rfl
theorem dm64 (c : UInt8) : dmV 64 c = (match b64V c with | some d => d | none => 255) := by
  unfold dmV
  cases h : b64V c with
  | none => rfl
  | some d => simp [b64V_lt _ _ h]
theorem encAt_some {w : World} {b : Nat} (h : EncAt w b) (c : UInt8) (d : Nat) (hd : b64V c = some d) : w.cell? ⟨b, 64 + c.toNat, none⟩ = some (.int .u8 (d : Int)) := by
  rw [cell_of_row w _ _ _ _ _ h]
  have := encL_map 64 c
  rw [dm64, hd] at this
  simpa using this
theorem encAt_none {w : World} {b : Nat} (h : EncAt w b) (c : UInt8) (hd : b64V c = none) : w.cell? ⟨b, 64 + c.toNat, none⟩ = some (.int .u8 255) := by
  rw [cell_of_row w _ _ _ _ _ h]
  have := encL_map 64 c
  rw [dm64, hd] at this
  simpa using this

theorem DecodedLen_any (b n : Nat) (w : World) (hn : n ≤ 1000000) (h : EncAt w b) :
    Calls Tryd.prog 63 #[.pointer (some ⟨b, 0, none⟩), .int .i64 n] w fun e w' => e = .returned (.int .i64 ((n / 4 * 3 : Nat) : Int)) ∧ w = w' := by
  have hp := encAt_pad h
  have hc := hidF (decodedLen_any n w hn)
  go_enter Tryd.func63, Tryd.ntmps63
  go_wp2_with fail
  refine hc.out.mono ?_
  rintro e w1 ⟨rfl, rfl⟩
  go_wp2_with fail
  go_ret
  exact ⟨rfl, rfl⟩
end Go.Proofs.YtbpoecfbcmdeeaaDoor
