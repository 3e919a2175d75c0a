/- base64's encoding, plainly: numbers of three bytes, digits, a block's cells. -/
import Derived.Test.YtbpoecfbcmdeeaaDoorEncN
import Derived.Test.YtbpoecfbcmdeeaaDoorGroups
namespace Go.Proofs.YtbpoecfbcmdeeaaDoor
open Go.RowKit

theorem and63 (X : Nat) (hX : X < 2 ^ 32) : bits BinOp.and .u64 (X : Int) 63 = ((X % 64 : Nat) : Int) := by
  have e := bits_and_nat .u64 X (2 ^ 6 - 1) (by show X < 2 ^ 64; omega) (by show 2 ^ 6 - 1 < 2 ^ 64; omega)
  rw [Nat.and_two_pow_sub_one_eq_mod] at e
  have e2 : bits BinOp.and .u64 (X : Int) 63 = IntKind.u64.wrap ((X % 2 ^ 6 : Nat) : Int) := e
  rw [e2, IntWalk.u64_in _ (by omega)]
theorem val2 (x y : UInt8) : bits BinOp.or .u64 ((x.toNat : Int) * 65536) ((y.toNat : Int) * 256) = ((x.toNat * 65536 + y.toNat * 256 : Nat) : Int) := by
  have hx := x.toNat_lt
  have hy := y.toNat_lt
  have e1 := or_u64 x.toNat 16 (y.toNat * 256) ((x.toNat : Int) * 65536) (by omega) (by omega) (by omega)
  rw [show ((y.toNat * 256 : Nat) : Int) = (y.toNat : Int) * 256 by omega] at e1
  rw [e1]
theorem val3 (x y z : UInt8) : bits BinOp.or .u64 (bits BinOp.or .u64 ((x.toNat : Int) * 65536) ((y.toNat : Int) * 256)) (z.toNat : Int) = ((x.toNat * 65536 + y.toNat * 256 + z.toNat : Nat) : Int) := by
  have hx := x.toNat_lt
  have hy := y.toNat_lt
  have hz := z.toNat_lt
  have e2 := or_u64 (x.toNat * 256 + y.toNat) 8 z.toNat (((x.toNat * 65536 + y.toNat * 256 : Nat) : Int)) (by omega) (by omega) (by omega)
  rw [val2, e2]
  omega
/-- The four digits of a number of 24 bits. -/
theorem dig_facts (V : Nat) (hV : V < 16777216) : ∃ d0 d1 d2 d3 : Nat, d0 = V / 262144 ∧ d1 = V / 4096 % 64 ∧ d2 = V / 64 % 64 ∧ d3 = V % 64 ∧ d0 < 64 ∧ d1 < 64 ∧ d2 < 64 ∧ d3 < 64 ∧
    bits BinOp.and .u64 ((V : Int) / 262144) 63 = (d0 : Int) ∧ bits BinOp.and .u64 ((V : Int) / 4096) 63 = (d1 : Int) ∧ bits BinOp.and .u64 ((V : Int) / 64) 63 = (d2 : Int) ∧ bits BinOp.and .u64 (V : Int) 63 = (d3 : Int) := by
  refine ⟨_, _, _, _, rfl, rfl, rfl, rfl, by omega, by omega, by omega, by omega, ?_, ?_, ?_, ?_⟩
  · rw [show (V : Int) / 262144 = ((V / 262144 : Nat) : Int) by omega, and63 _ (by omega)]; omega
  · rw [show (V : Int) / 4096 = ((V / 4096 : Nat) : Int) by omega, and63 _ (by omega)]
  · rw [show (V : Int) / 64 = ((V / 64 : Nat) : Int) by omega, and63 _ (by omega)]
  · rw [and63 _ (by omega)]

theorem b64L_app : ∀ (p r : List UInt8), p.length % 3 = 0 → b64L (p ++ r) = b64L p ++ b64L r
  | [], r, _ => rfl
  | [_], _, h => by simp at h
  | [_, _], _, h => by simp at h
  | a :: b :: c :: p, r, h => by
    have ih := b64L_app p r (by simp only [List.length_cons] at h; omega)
    show b64L (a :: b :: c :: (p ++ r)) = b64L (a :: b :: c :: p) ++ b64L r
    simp only [b64L, ih, List.cons_append]

theorem splice_app {α : Type} (L : List α) (o : Nat) (A B : List α) (h : o + (A.length + B.length) ≤ L.length) : splice (splice L o A) (o + A.length) B = splice L o (A ++ B) := by
  apply List.ext_getElem?
  intro j
  rw [splice_get _ _ _ (by rw [length_splice _ _ _ (by omega)]; omega), splice_get _ _ _ (by omega), splice_get _ _ _ (by simp; omega)]
  by_cases h1 : j < o
  · rw [if_pos (by omega), if_pos h1, if_pos h1]
  · rw [if_neg h1, if_neg h1]
    by_cases h2 : j < o + A.length
    · rw [if_pos h2, if_pos h2, if_pos (by simp; omega), List.getElem?_append_left (by omega)]
    · rw [if_neg h2, if_neg h2]
      by_cases h3 : j < o + A.length + B.length
      · rw [if_pos h3, if_pos (by simp; omega), List.getElem?_append_right (by omega)]
        congr 1; omega
      · rw [if_neg h3, if_neg (by simp; omega)]

/-- A block's cells, whole. -/
def Ob (w : World) (g : Nat) (t : TypeId) (L : List Value) : Prop := w.heap[g]? = some (.cells L.toArray t (0, 0))
theorem Ob.cell {w : World} {g : Nat} {t : TypeId} {L : List Value} (h : Ob w g t L) (j : Nat) (v : Value) (hj : L[j]? = some v) : w.cell? ⟨g, j, none⟩ = some v := by
  rw [cell_of_row w _ _ _ _ _ h, List.getElem?_toArray, hj]
theorem Ob.free {w : World} {g : Nat} {t : TypeId} {L : List Value} (h : Ob w g t L) (j : Nat) : w.frozen? ⟨g, j, none⟩ = false := by
  unfold World.frozen?
  rw [show w.heap[g]? = _ from h]
  simp
theorem Ob.set {w : World} {g : Nat} {t : TypeId} {L : List Value} (h : Ob w g t L) (o : Nat) (v : Value) : Ob (w.setCell ⟨g, o, none⟩ v) g t (L.set o v) := by
  have h2 : w.heap[g]? = some (.cells L.toArray t (0, 0)) := h
  unfold Ob World.setCell
  simp [Array.getElem?_modify, h2]
theorem Ob.lt {w : World} {g : Nat} {t : TypeId} {L : List Value} (h : Ob w g t L) : g < w.heap.size := (Array.getElem?_eq_some_iff.1 h).1
theorem Ob.same {w w' : World} {g : Nat} {t : TypeId} {L : List Value} (h : Ob w g t L) (e : w'.heap[g]? = w.heap[g]?) : Ob w' g t L := e.trans h
/-- Four cells. -/
theorem Ob.set4 {w : World} {g : Nat} {t : TypeId} {L : List Value} (h : Ob w g t L) (o : Nat) (a b c d : Value) (hl : o + 4 ≤ L.length) :
    Ob ((((w.setCell ⟨g, o, none⟩ a).setCell ⟨g, o + 1, none⟩ b).setCell ⟨g, o + 2, none⟩ c).setCell ⟨g, o + 3, none⟩ d) g t (splice L o [a, b, c, d]) := by
  have h4 := (((h.set o a).set (o + 1) b).set (o + 2) c).set (o + 3) d
  rw [← splice_cons L o a [b, c, d] (by simp; omega), ← splice_cons (L.set o a) (o + 1) b [c, d] (by simp; omega), ← splice_cons _ (o + 1 + 1) c [d] (by simp; omega), ← splice_cons _ (o + 1 + 1 + 1) d [] (by simp; omega), splice_nil]
  exact h4
theorem grown_set4 (w : World) (g o p q r : Nat) (a b c d : Value) : w.grownBy ((((w.setCell ⟨g, o, none⟩ a).setCell ⟨g, p, none⟩ b).setCell ⟨g, q, none⟩ c).setCell ⟨g, r, none⟩ d) (some g) :=
  grown_trans (grown_trans (grown_trans (grown_setAt _ _ _ _) (grown_setAt _ _ _ _)) (grown_setAt _ _ _ _)) (grown_setAt _ _ _ _)

theorem encAt_dig {w : World} {b : Nat} (h : EncAt w b) (j : Nat) (hj : j < 64) : w.cell? ⟨b, j, none⟩ = some (.int .u8 ((digC j).toNat : Int)) := by
  rw [cell_of_row w _ _ _ _ _ h, List.getElem?_toArray]
  unfold encL
  have h64 : (Lib.strCells digB64).length = 64 := by rfl
  rw [List.getElem?_append_left (by omega)]
  have hl : digB64.data.toList.length = 64 := by rfl
  rw [Lib.strCells_eq]
  unfold Lib.byteCells digC
  rw [List.getElem?_map, List.getD_eq_getElem?_getD, List.getElem?_eq_getElem (by omega)]
  rfl
theorem encAt_digs {w : World} {b : Nat} (h : EncAt w b) : ∀ j v, (Lib.strCells digB64)[j]? = some v → w.cell? ⟨b, 0 + j, none⟩ = some v := by
  intro j v hj
  have hj1 : j < (Lib.strCells digB64).length := (List.getElem?_eq_some_iff.1 hj).1
  rw [Nat.zero_add, cell_of_row w _ _ _ _ _ h, List.getElem?_toArray]
  unfold encL
  rw [List.getElem?_append_left hj1, hj]
theorem digsLen0 : (Tryd.prog.info? 118).map (·.size) = some 64 := by kernel_rfl
theorem digsLen : (Tryd.prog.info? 118).map (·.size) = some (Lib.strCells digB64).length := digsLen0
end Go.Proofs.YtbpoecfbcmdeeaaDoor
