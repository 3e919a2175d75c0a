/- Quoted texts, plainly: built sign by sign. -/
import Derived.Test.YtolbedmmjennoaaDoorQText
namespace Go.Proofs.YtolbedmmjennoaaDoor

theorem Esc.snoc {t q : List UInt8} (h : Esc t q) (c : UInt8) (h1 : c ≠ 34) (h2 : c ≠ 92) (h3 : noCtl c) : Esc (t ++ [c]) (q ++ [c]) := by
  induction h with
  | nil => exact .plain c [] [] h1 h2 h3 .nil
  | plain d t q g1 g2 g3 _ ih => exact .plain d _ _ g1 g2 g3 ih
  | esc d t q g1 g2 _ ih => exact .esc d _ _ g1 g2 ih

theorem Esc.snocEsc {t q : List UInt8} (h : Esc t q) (c : UInt8) (h1 : c.toNat < 128) (h3 : noCtl c) : Esc (t ++ [c]) (q ++ [92, c]) := by
  induction h with
  | nil => exact .esc c [] [] h1 h3 .nil
  | plain d t q g1 g2 g3 _ ih => exact .plain d _ _ g1 g2 g3 ih
  | esc d t q g1 g2 _ ih => exact .esc d _ _ g1 g2 ih

theorem take_more (s : ByteArray) (k : Nat) (h : k < s.size) : s.data.toList.take (k + 1) = s.data.toList.take k ++ [s[k]] := by
  rw [List.take_add_one, get_of s k h]; rfl

theorem one_mkB (s : ByteArray) (k : Nat) (h : k < s.size) : s.extract k (k + 1) = mkB [s[k]] := by
  apply ByteArray.ext
  apply Array.ext'
  rw [Lib.extract_data, drop_cons s k h, Nat.add_sub_cancel_left]
  rfl

theorem add_mkB (a b : List UInt8) : mkB a ++ mkB b = mkB (a ++ b) := by
  apply ByteArray.ext
  rw [ByteArray.data_append]
  apply Array.ext'
  simp [mkB]
end Go.Proofs.YtolbedmmjennoaaDoor
