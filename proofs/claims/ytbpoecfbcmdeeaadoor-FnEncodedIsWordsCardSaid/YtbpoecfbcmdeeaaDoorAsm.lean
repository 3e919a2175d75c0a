/- base64's assemble32, assemble64: the walks. -/
import Derived.Test.YtbpoecfbcmdeeaaDoorBits
import Derived.Test.YtbpoecfbcmdeeaaDoorEncM
import Derived.Outline
namespace Go.Proofs.YtbpoecfbcmdeeaaDoor
open Go.RowKit

theorem or_u32 (A i Y : Nat) (X : Int) (hX : X = ((A * 2 ^ i : Nat) : Int)) (hY : Y < 2 ^ i) (h : A * 2 ^ i + Y < 2 ^ 32) : bits BinOp.or .u32 X (Y : Int) = ((A * 2 ^ i + Y : Nat) : Int) := by
  rw [hX, bits_or_nat .u32 (A * 2 ^ i) Y (by show _ < 2 ^ 32; omega) (by show _ < 2 ^ 32; omega), or_add A Y i hY]
  exact IntWalk.u32_in _ (by omega)
theorem or_u64 (A i Y : Nat) (X : Int) (hX : X = ((A * 2 ^ i : Nat) : Int)) (hY : Y < 2 ^ i) (h : A * 2 ^ i + Y < 2 ^ 64) : bits BinOp.or .u64 X (Y : Int) = ((A * 2 ^ i + Y : Nat) : Int) := by
  rw [hX, bits_or_nat .u64 (A * 2 ^ i) Y (by show _ < 2 ^ 64; omega) (by show _ < 2 ^ 64; omega), or_add A Y i hY]
  exact IntWalk.u64_in _ (by omega)
theorem or_small (x y : Nat) (hx : x < 64) (hy : y < 64) : ∃ z : Nat, z < 64 ∧ bits BinOp.or .u8 (x : Int) (y : Int) = (z : Int) := by
  refine ⟨x ||| y, Nat.or_lt_two_pow (n := 6) hx hy, ?_⟩
  rw [bits_or_nat .u8 x y (by show _ < 2 ^ 8; omega) (by show _ < 2 ^ 8; omega)]
  have := Nat.or_lt_two_pow (n := 6) hx hy
  exact IntWalk.u8_in _ (by omega)

theorem or_four (a b c d : Nat) (ha : a < 64) (hb : b < 64) (hc : c < 64) (hd : d < 64) : ∃ z : Nat, z < 64 ∧ bits BinOp.or .u8 (bits BinOp.or .u8 (bits BinOp.or .u8 (a : Int) (b : Int)) (c : Int)) (d : Int) = (z : Int) := by
  obtain ⟨z1, h1, e1⟩ := or_small a b ha hb
  obtain ⟨z2, h2, e2⟩ := or_small z1 c h1 hc
  obtain ⟨z3, h3, e3⟩ := or_small z2 d h2 hd
  exact ⟨z3, h3, by rw [e1, e2, e3]⟩

/-- The number of four digits. -/
def num4 (a b c d : Nat) : Nat := a * 262144 + b * 4096 + c * 64 + d

theorem asm32_val (a b c d : Nat) (ha : a < 64) (hb : b < 64) (hc : c < 64) (hd : d < 64) :
    bits BinOp.or IntKind.u32 (bits BinOp.or IntKind.u32 (bits BinOp.or IntKind.u32 ((a : Int) * 67108864) ((b : Int) * 1048576)) ((c : Int) * 16384)) ((d : Int) * 256) = ((num4 a b c d * 256 : Nat) : Int) := by
  have e1 := or_u32 a 26 (b * 1048576) ((a : Int) * 67108864) (by omega) (by omega) (by omega)
  have e2 := or_u32 (a * 64 + b) 20 (c * 16384) (((a * 2 ^ 26 + b * 1048576 : Nat) : Int)) (by omega) (by omega) (by omega)
  have e3 := or_u32 (a * 4096 + b * 64 + c) 14 (d * 256) ((((a * 64 + b) * 2 ^ 20 + c * 16384 : Nat) : Int)) (by omega) (by omega) (by omega)
  simp only [Int.natCast_mul, Int.cast_ofNat_Int] at e1 e2 e3
  rw [show (b : Int) * 1048576 = ((b : Int) * ((1048576 : Nat) : Int)) from rfl] at *
  unfold num4
  rw [e1, e2, e3]; omega

set_option maxHeartbeats 1000000 in
set_option maxRecDepth 100000 in
theorem asm32_any (a b c d : Nat) (ha : a < 64) (hb : b < 64) (hc : c < 64) (hd : d < 64) (w : World) :
    Calls Tryd.prog 78 #[.int .u8 a, .int .u8 b, .int .u8 c, .int .u8 d] w fun e w' => e = .returned (.tuple #[.int .u32 (num4 a b c d * 256 : Nat), .bool true]) ∧ w = w' := by
  obtain ⟨z, hz, ez⟩ := or_four a b c d ha hb hc hd
  have hx2 : (bits BinOp.or .u8 (bits BinOp.or .u8 (bits BinOp.or .u8 (a : Int) (b : Int)) (c : Int)) (d : Int) == 255) = false := by
    rw [ez]; exact beq_eq_false_iff_ne.2 (by omega)
  have hv := hidF (asm32_val a b c d ha hb hc hd)
  clear ez hz
  go_enter Tryd.func78, Tryd.ntmps78
  go_wp2_with fail
  go_ret2
  exact ⟨by rw [hv.out]; rfl, rfl⟩
theorem asm64_val (a b c d e f g h : Nat) (ha : a < 64) (hb : b < 64) (hc : c < 64) (hd : d < 64) (he : e < 64) (hf : f < 64) (hg : g < 64) (hh : h < 64) :
    bits BinOp.or IntKind.u64 (bits BinOp.or IntKind.u64 (bits BinOp.or IntKind.u64 (bits BinOp.or IntKind.u64 (bits BinOp.or IntKind.u64 (bits BinOp.or IntKind.u64 (bits BinOp.or IntKind.u64 ((a : Int) * 288230376151711744) ((b : Int) * 4503599627370496)) ((c : Int) * 70368744177664)) ((d : Int) * 1099511627776)) ((e : Int) * 17179869184)) ((f : Int) * 268435456)) ((g : Int) * 4194304)) ((h : Int) * 65536) = (((num4 a b c d * 16777216 + num4 e f g h) * 65536 : Nat) : Int) := by
  obtain ⟨A1, hA1⟩ : ∃ A1, A1 = a := ⟨_, rfl⟩
  have e1 := or_u64 A1 58 (b * 4503599627370496) ((a : Int) * 288230376151711744) (by omega) (by omega) (by omega)
  obtain ⟨A2, hA2⟩ : ∃ A2, A2 = A1 * 64 + b := ⟨_, rfl⟩
  have e2 := or_u64 A2 52 (c * 70368744177664) (((A1 * 2 ^ 58 + b * 4503599627370496 : Nat) : Int)) (by omega) (by omega) (by omega)
  obtain ⟨A3, hA3⟩ : ∃ A3, A3 = A2 * 64 + c := ⟨_, rfl⟩
  have e3 := or_u64 A3 46 (d * 1099511627776) (((A2 * 2 ^ 52 + c * 70368744177664 : Nat) : Int)) (by omega) (by omega) (by omega)
  obtain ⟨A4, hA4⟩ : ∃ A4, A4 = A3 * 64 + d := ⟨_, rfl⟩
  have e4 := or_u64 A4 40 (e * 17179869184) (((A3 * 2 ^ 46 + d * 1099511627776 : Nat) : Int)) (by omega) (by omega) (by omega)
  obtain ⟨A5, hA5⟩ : ∃ A5, A5 = A4 * 64 + e := ⟨_, rfl⟩
  have e5 := or_u64 A5 34 (f * 268435456) (((A4 * 2 ^ 40 + e * 17179869184 : Nat) : Int)) (by omega) (by omega) (by omega)
  obtain ⟨A6, hA6⟩ : ∃ A6, A6 = A5 * 64 + f := ⟨_, rfl⟩
  have e6 := or_u64 A6 28 (g * 4194304) (((A5 * 2 ^ 34 + f * 268435456 : Nat) : Int)) (by omega) (by omega) (by omega)
  obtain ⟨A7, hA7⟩ : ∃ A7, A7 = A6 * 64 + g := ⟨_, rfl⟩
  have e7 := or_u64 A7 22 (h * 65536) (((A6 * 2 ^ 28 + g * 4194304 : Nat) : Int)) (by omega) (by omega) (by omega)
  rw [show ((b * 4503599627370496 : Nat) : Int) = (b : Int) * 4503599627370496 by omega] at e1
  rw [show ((c * 70368744177664 : Nat) : Int) = (c : Int) * 70368744177664 by omega] at e2
  rw [show ((d * 1099511627776 : Nat) : Int) = (d : Int) * 1099511627776 by omega] at e3
  rw [show ((e * 17179869184 : Nat) : Int) = (e : Int) * 17179869184 by omega] at e4
  rw [show ((f * 268435456 : Nat) : Int) = (f : Int) * 268435456 by omega] at e5
  rw [show ((g * 4194304 : Nat) : Int) = (g : Int) * 4194304 by omega] at e6
  rw [show ((h * 65536 : Nat) : Int) = (h : Int) * 65536 by omega] at e7
  rw [e1, e2, e3, e4, e5, e6, e7]
  unfold num4
  omega
theorem or_eight (a b c d e f g h : Nat) (ha : a < 64) (hb : b < 64) (hc : c < 64) (hd : d < 64) (he : e < 64) (hf : f < 64) (hg : g < 64) (hh : h < 64) : ∃ z : Nat, z < 64 ∧ bits BinOp.or .u8 (bits BinOp.or .u8 (bits BinOp.or .u8 (bits BinOp.or .u8 (bits BinOp.or .u8 (bits BinOp.or .u8 (bits BinOp.or .u8 (a : Int) (b : Int)) (c : Int)) (d : Int)) (e : Int)) (f : Int)) (g : Int)) (h : Int) = (z : Int) := by
  obtain ⟨z, hz, ez⟩ := or_four a b c d ha hb hc hd
  rw [ez]
  obtain ⟨z4, k4, e4⟩ := or_small z e hz he
  obtain ⟨z5, k5, e5⟩ := or_small z4 f k4 hf
  obtain ⟨z6, k6, e6⟩ := or_small z5 g k5 hg
  obtain ⟨z7, k7, e7⟩ := or_small z6 h k6 hh
  exact ⟨z7, k7, by rw [e4, e5, e6, e7]⟩

set_option maxHeartbeats 2000000 in
set_option maxRecDepth 100000 in
theorem asm64_any (a b c d e0 f g h : Nat) (ha : a < 64) (hb : b < 64) (hc : c < 64) (hd : d < 64) (he : e0 < 64) (hf : f < 64) (hg : g < 64) (hh : h < 64) (w : World) :
    Calls Tryd.prog 75 #[.int .u8 a, .int .u8 b, .int .u8 c, .int .u8 d, .int .u8 e0, .int .u8 f, .int .u8 g, .int .u8 h] w fun e w' => e = .returned (.tuple #[.int .u64 ((num4 a b c d * 16777216 + num4 e0 f g h) * 65536 : Nat), .bool true]) ∧ w = w' := by
  obtain ⟨z, hz, ez⟩ := or_eight a b c d e0 f g h ha hb hc hd he hf hg hh
  have hx2 : (bits BinOp.or .u8 (bits BinOp.or .u8 (bits BinOp.or .u8 (bits BinOp.or .u8 (bits BinOp.or .u8 (bits BinOp.or .u8 (bits BinOp.or .u8 (a : Int) (b : Int)) (c : Int)) (d : Int)) (e0 : Int)) (f : Int)) (g : Int)) (h : Int) == 255) = false := by
    rw [ez]; exact beq_eq_false_iff_ne.2 (by omega)
  have hv := hidF (asm64_val a b c d e0 f g h ha hb hc hd he hf hg hh)
  clear ez hz
  go_enter Tryd.func75, Tryd.ntmps75
  go_wp2_with fail
  go_ret2
  exact ⟨by rw [hv.out]; rfl, rfl⟩
end Go.Proofs.YtbpoecfbcmdeeaaDoor
