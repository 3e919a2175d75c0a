/- Slices of strings that the call itself has made: appended to one by one. -/
import Derived.Test.YtbpoecfbcmdeeaaDoorBytes
namespace Go.Proofs.YtbpoecfbcmdeeaaDoor
open Go.RowKit

theorem infoStrS : (Tryd.prog.info? 9).map (fun i => (i.zero, i.size, i.bytes)) = some (some (.string ⟨#[]⟩), 1, 16) := by kernel_rfl

/-- The slice v holds the strings ps, in a block of the call's own. -/
def OwnS (B : Nat) (v : Value) (ps : List ByteArray) (w : World) : Prop := w.ownsRow B 9 1 v ps.length (ps.map Value.string)

theorem OwnS.nil (B : Nat) (w : World) : OwnS B (.slice none 0 0) [] w := World.ownsRow_nil w B _ _
theorem OwnS.kept {B : Nat} {v : Value} {l : List ByteArray} {w w' : World} {row : Option Nat} (h : OwnS B v l w) (hg : w.grownBy w' row) (hr : v.ownBlock = none ∨ v.ownBlock ≠ row) : OwnS B v l w' :=
  World.ownsRow.kept h hg hr
theorem OwnS.below {B : Nat} {v : Value} {l : List ByteArray} {w w' : World} (h : OwnS B v l w) (hb : Below w.heap.size w w') : OwnS B v l w' :=
  h.kept (grown_below hb (Nat.le_refl _) none) (Classical.em _)
/-- Where it is not empty: its cells. -/
theorem OwnS.row {B : Nat} {v : Value} {l : List ByteArray} {w : World} (h : OwnS B v l w) : (v = .slice none 0 0 ∧ l = []) ∨ ∃ g cap, v = .slice (some ⟨g, 0, none⟩) l.length cap ∧ B ≤ g ∧ g < w.heap.size ∧
    (∀ j c, l[j]? = some c → w.cell? ⟨g, j, none⟩ = some (.string c)) := by
  have h' := h
  rcases h.2 with ⟨rfl, h0⟩ | ⟨g, cap, cur, rfl, hB, hg, hn, hc, hsz, htk⟩
  · exact .inl ⟨rfl, List.length_eq_zero_iff.1 h0⟩
  · refine .inr ⟨g, cap, rfl, hB, (Array.getElem?_eq_some_iff.1 hg).1, fun j c hj => ?_⟩
    have := World.ownsRow.cells h' rfl j (.string c) (by simp [hj])
    have e : (⟨g, 0, none⟩ : Addr).add j = ⟨g, j, none⟩ := by unfold Addr.add; split <;> simp_all
    rw [e] at this
    exact this

theorem wpList_append_str {ops : Array Oper} {rest : List Oper} {o : Oper} {a : Act} {Q : Exit → Act → World → Prop} (hgd : o.guard = none) (s x : Operand)
    (ho : o.op = .call { callee := .builtin .append, args := #[s, x], argTypes := #[38, 38] })
    (B : Nat) (v : Value) (l : List ByteArray) (c : ByteArray) (w0 : World) (T : TypeId) (hs : a.eval s = v) (hown : OwnS B v l w0) (hx : a.eval x = .slice (some ⟨w0.heap.size, 0, none⟩) 1 1)
    (hlen : l.length + 1 ≤ 1000000) (hB : B ≤ w0.heap.size)
    (h : ∀ v' w', OwnS B v' (l ++ [c]) w' → Below B w0 w' → w0.grownBy w' v.ownBlock → wpList Tryd.prog ops Q rest (a.put o.dst v') w') : wpList Tryd.prog ops Q (o :: rest) a (w0.alloc (.cells #[.string c] T)) := by
  obtain ⟨i0, hi, hz0, hz1, hz2⟩ := info_parts infoStrS
  refine wpList_append_own _ hgd s x 38 ho B 9 i0 (.string ⟨#[]⟩) 1 16 Tryd.underlying38 hi hz0 hz1 hz2 rfl (by decide) v l.length (l.map Value.string) hs (World.ownsRow.alloc hown _) ⟨w0.heap.size, 0, none⟩ 1 1 [.string c] hx rfl ?_ ?_ ?_ ?_ ?_ ?_
  · intro j u hj
    match j, hj with
    | 0, hj => simp at hj; subst hj; simp [Addr.add]
  · intro u hu; simp at hu; subst hu; rfl
  · unfold maxLen; omega
  · omega
  · simp; omega
  · intro v' w' ho' hg' _
    refine h v' w' ?_ ?_ ?_
    · unfold OwnS
      simpa using ho'
    · exact ((Below.refl B w0).alloc hB _).grown hg' (by simp; omega) (fun k hk => (World.ownsRow.lt hown k hk).1)
    · exact grown_trans (World.grownBy_alloc w0 _ _) hg'
end Go.Proofs.YtbpoecfbcmdeeaaDoor
