/- Where the parts of an encoded word stand in a text; the builder beside blocks that came later. -/
import Derived.Test.YtbpoecfbcmdeeaaDoorHeadL
import Derived.Test.YtbpoecfbcmdeeaaDoorBldR2
namespace Go.Proofs.YtbpoecfbcmdeeaaDoor
open Go.RowKit

/-- The mark of an encoded word's end is first found where it stands. -/
theorem indexO_two (c d : UInt8) : ∀ (a r : List UInt8), (∀ x ∈ a, x ≠ c) → indexO [c, d] (a ++ c :: d :: r) = some a.length
  | [], r, _ => by rw [List.nil_append, indexO_here]; rfl; simp
  | x :: a, r, h => by
    have hx : x ≠ c := h x (by simp)
    rw [List.cons_append, indexO, if_neg, indexO_two c d a r (fun y hy => h y (by simp [hy]))]
    · rfl
    · intro e
      have := congrArg List.head? e
      simp at this
      exact hx this

/-- A text with an encoded word at k. -/
structure WAt (l : List UInt8) (k : Nat) (cs : List UInt8) (e : UInt8) (tx rest : List UInt8) : Prop where
  len : l.length = k + 7 + cs.length + tx.length + rest.length
  d1 : l.drop (k + 2) = cs ++ 63 :: (e :: 63 :: (tx ++ 63 :: 61 :: rest))
  t1 : (l.drop (k + 2)).take cs.length = cs
  g1 : l[k + 2 + cs.length + 1]? = some e
  g2 : l[k + 2 + cs.length + 2]? = some 63
  d2 : l.drop (k + 2 + cs.length + 3) = tx ++ 63 :: 61 :: rest
  t2 : (l.drop (k + 2 + cs.length + 3)).take tx.length = tx
  d3 : l.drop (k + 2 + cs.length + 3 + tx.length + 2) = rest

theorem wAt_of (l g cs tx rest : List UInt8) (k : Nat) (e : UInt8) (hg : g.length = k) (h : l = g ++ ((61 :: 63 :: (cs ++ 63 :: e :: 63 :: (tx ++ [63, 61]))) ++ rest)) : WAt l k cs e tx rest := by
  have h1 : l.drop (k + 2) = cs ++ 63 :: (e :: 63 :: (tx ++ 63 :: 61 :: rest)) := by
    rw [h, ← hg, ← List.drop_drop, List.drop_left]
    simp
  have h2 : l.drop (k + 2 + cs.length) = 63 :: e :: 63 :: (tx ++ 63 :: 61 :: rest) := by
    rw [← List.drop_drop, h1, List.drop_left]
  have h3 : l.drop (k + 2 + cs.length + 3) = tx ++ 63 :: 61 :: rest := by
    rw [← List.drop_drop, h2]; rfl
  refine ⟨?_, h1, ?_, ?_, ?_, h3, ?_, ?_⟩
  · rw [h, ← hg]; simp; omega
  · rw [h1, List.take_left]
  · rw [← List.getElem?_drop, h2]; rfl
  · rw [← List.getElem?_drop, h2]; rfl
  · rw [h3, List.take_left]
  · rw [show k + 2 + cs.length + 3 + tx.length + 2 = (k + 2 + cs.length + 3) + (tx.length + 2) by omega, ← List.drop_drop, h3, ← List.drop_drop, List.drop_left]; rfl

/-- A block that came after the builder is apart from it. -/
theorem apart_new {b g : Nat} {bs : List UInt8} {w w' : World} (h : IsB b bs w) (hb : Below w.heap.size w w') (hg : w.heap.size ≤ g) : Apart w' b g := by
  have hlt := h.lt
  have key : ∀ p, Lib.BuilderAtF 64 5 0 b p (Lib.byteCells bs) w → Apart w' b g := by
    rintro p ⟨_, v, hbk, hown, hne⟩
    have hc : w.cell? ⟨b, 1, none⟩ = some v := by rw [cell_of_row w b 1 _ _ _ hbk]; rfl
    refine ⟨by omega, fun u hu => ?_⟩
    rw [hb.cell (p := ⟨b, 1, none⟩) hlt, hc] at hu
    obtain rfl := Option.some.inj hu
    intro e
    have := (hown.lt g e).2
    omega
  exact h.elim (key _) (key _)
end Go.Proofs.YtbpoecfbcmdeeaaDoor
