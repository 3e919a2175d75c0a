/- Bits of numbers that are not negative: or, and, plainly. No program in sight. -/
import Derived.WalkKit
import Derived.IntWalk
namespace Go.Proofs.YtbpoecfbcmdeeaaDoor
open Go

theorem bits_or_nat (k : IntKind) (x y : Nat) (hx : x < 2 ^ k.bits) (hy : y < 2 ^ k.bits) : bits BinOp.or k (x : Int) (y : Int) = k.wrap ((x ||| y : Nat) : Int) := by
  unfold bits
  simp only [BitVec.ofInt_natCast, BitVec.toNat_or, BitVec.toNat_ofNat, Nat.mod_eq_of_lt hx, Nat.mod_eq_of_lt hy]
theorem bits_and_nat (k : IntKind) (x y : Nat) (hx : x < 2 ^ k.bits) (hy : y < 2 ^ k.bits) : bits BinOp.and k (x : Int) (y : Int) = k.wrap ((x &&& y : Nat) : Int) := by
  unfold bits
  simp only [BitVec.ofInt_natCast, BitVec.toNat_and, BitVec.toNat_ofNat, Nat.mod_eq_of_lt hx, Nat.mod_eq_of_lt hy]

theorem or_add (a b i : Nat) (h : b < 2 ^ i) : (a * 2 ^ i) ||| b = a * 2 ^ i + b := by
  rw [Nat.mul_comm a (2 ^ i), Nat.two_pow_add_eq_or_of_lt h]

/-- i64: a digit behind others. -/
theorem or64 (x d : Nat) (hx : x < 1000000000) (hd : d < 64) : bits BinOp.or .i64 ((x : Int) * 64) (d : Int) = (x : Int) * 64 + (d : Int) := by
  have e := bits_or_nat .i64 (x * 64) d (by show x * 64 < 2 ^ 64; omega) (by show d < 2 ^ 64; omega)
  have e2 := or_add x d 6 hd
  rw [show (2 : Nat) ^ 6 = 64 from rfl] at e2
  rw [e2, IntWalk.i64_in _ (by omega)] at e
  have e3 : ((x * 64 : Nat) : Int) = (x : Int) * 64 := by omega
  rw [e3] at e
  rw [e]
  omega
theorem and_mod (x i : Nat) (hx : x < 2 ^ 62) (hi : i < 60) : bits BinOp.and .i64 (x : Int) ((2 ^ i - 1 : Nat) : Int) = ((x % 2 ^ i : Nat) : Int) := by
  have h1 : 2 ^ i < 2 ^ 60 := Nat.pow_lt_pow_right (by omega) hi
  have h2 : (2 : Nat) ^ 60 < 2 ^ 62 := by decide
  have e := bits_and_nat .i64 x (2 ^ i - 1) (by show x < 2 ^ 64; omega) (by show 2 ^ i - 1 < 2 ^ 64; omega)
  rw [Nat.and_two_pow_sub_one_eq_mod] at e
  rw [e, IntWalk.i64_in]
  have h3 := Nat.mod_le x (2 ^ i)
  omega
theorem and255 (x : Nat) (hx : x < 2 ^ 62) : bits BinOp.and .i64 (x : Int) 255 = ((x % 256 : Nat) : Int) := and_mod x 8 hx (by omega)
theorem and65535 (x : Nat) (hx : x < 2 ^ 62) : bits BinOp.and .i64 (x : Int) 65535 = ((x % 65536 : Nat) : Int) := and_mod x 16 hx (by omega)
theorem and0 (x : Nat) (hx : x < 2 ^ 62) : bits BinOp.and .i64 (x : Int) 0 = 0 := by
  have := and_mod x 0 hx (by omega)
  simpa [Nat.mod_one] using this
end Go.Proofs.YtbpoecfbcmdeeaaDoor
