/- Slices of bytes: two bytes at once; cells. -/
import Derived.Test.YtbpoecfbcmdeeaaDoorBytes
namespace Go.Proofs.YtbpoecfbcmdeeaaDoor
open Go.RowKit

/-- Two bytes at once. -/
theorem wpList_append_two {ops : Array Oper} {rest : List Oper} {o : Oper} {a : Act} {Q : Exit → Act → World → Prop} (hgd : o.guard = none) (s x : Operand)
    (ho : o.op = .call { callee := .builtin .append, args := #[s, x], argTypes := #[39, 39] })
    (B : Nat) (v : Value) (l : List UInt8) (c d : UInt8) (X Y : Int) (w0 : World) (T : TypeId) (hs : a.eval s = v) (hown : OwnB B v l w0) (hx : a.eval x = .slice (some ⟨w0.heap.size, 0, none⟩) 2 2)
    (hlen : l.length + 2 ≤ 1000000000) (hB : B ≤ w0.heap.size) (hc : X = (c.toNat : Int)) (hd : Y = (d.toNat : Int))
    (h : ∀ v' w', OwnB B v' (l ++ [c, d]) w' → Below B w0 w' → w0.grownBy w' v.ownBlock → wpList Tryd.prog ops Q rest (a.put o.dst v') w') : wpList Tryd.prog ops Q (o :: rest) a (w0.alloc (.cells #[.int .u8 X, .int .u8 Y] T)) := by
  obtain ⟨i0, hi, hz0, hz1, hz2⟩ := info_parts infoByteB
  refine wpList_append_own _ hgd s x 39 ho B 5 i0 (.int .u8 0) 1 1 Tryd.underlying39 hi hz0 hz1 hz2 rfl (by decide) v l.length (Lib.byteCells l) hs (World.ownsRow.alloc hown _) ⟨w0.heap.size, 0, none⟩ 2 2 [.int .u8 X, .int .u8 Y] hx rfl ?_ ?_ ?_ ?_ ?_ ?_
  · intro j u hj
    match j, hj with
    | 0, hj => simp at hj; subst hj; simp [Addr.add]
    | 1, hj => simp at hj; subst hj; simp [Addr.add]
  · intro u hu; simp at hu; rcases hu with rfl | rfl <;> rfl
  · unfold maxLen; omega
  · omega
  · simp; omega
  · intro v' w' ho' hg' _
    refine h v' w' ?_ ?_ ?_
    · unfold OwnB
      rw [hc, hd] at ho'
      simpa [Lib.byteCells] using ho'
    · exact ((Below.refl B w0).alloc hB _).grown hg' (by simp; omega) (fun k hk => (World.ownsRow.lt hown k hk).1)
    · exact grown_trans (World.grownBy_alloc w0 _ _) hg'

/-- Its cells, one by one. -/
theorem OwnB.at {B : Nat} {v : Value} {l : List UInt8} {w : World} (h : OwnB B v l w) : ∃ a cap, v = .slice a l.length cap ∧ ∀ j c, l[j]? = some c → ∃ g, a = some ⟨g, 0, none⟩ ∧ B ≤ g ∧ g < w.heap.size ∧ w.cell? ⟨g, j, none⟩ = some (.int .u8 (c.toNat : Int)) := by
  rcases h.row with ⟨rfl, rfl⟩ | ⟨g, cap, rfl, h1, h2, _, _, hc⟩
  · exact ⟨none, 0, rfl, fun j c hj => by simp at hj⟩
  · exact ⟨_, _, rfl, fun j c hj => ⟨g, rfl, h1, h2, (hc j c hj).1⟩⟩
end Go.Proofs.YtbpoecfbcmdeeaaDoor
