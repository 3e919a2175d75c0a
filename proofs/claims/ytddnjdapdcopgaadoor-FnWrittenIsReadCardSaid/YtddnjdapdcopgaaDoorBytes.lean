/- Slices of bytes that the call itself has made: appended to byte by byte. -/
import Derived.Test.YtddnjdapdcopgaaDoorBase
import Derived.Lib.UnsafeStr
import Derived.Lib.Slices
import Derived.Lib.Walk
import Derived.Deep.RegionHeld3
import Derived.Deep.AppendLies
import Derived.Laws.BytesArg
import Derived.Laws.IdiomStrings
namespace Go.Proofs.YtddnjdapdcopgaaDoor
open Go.RowKit

theorem infoByteB : (Tryd.prog.info? 5).map (fun i => (i.zero, i.size, i.bytes)) = some (some (.int .u8 0), 1, 1) := by kernel_rfl

/-- The slice v holds the bytes l, in a block of the call's own. -/
def OwnB (B : Nat) (v : Value) (l : List UInt8) (w : World) : Prop := w.ownsRow B 5 1 v l.length (Lib.byteCells l)

theorem OwnB.nil (B : Nat) (w : World) : OwnB B (.slice none 0 0) [] w := World.ownsRow_nil w B _ _
theorem OwnB.kept {B : Nat} {v : Value} {l : List UInt8} {w w' : World} {row : Option Nat} (h : OwnB B v l w) (hg : w.grownBy w' row) (hr : ∀ k, row = some k → k < B) : OwnB B v l w' :=
  World.ownsRow.kept h hg (by
    cases hv : v.ownBlock with
    | none => exact .inl rfl
    | some g =>
      right
      intro e
      have h1 := (World.ownsRow.lt h g hv).1
      have h2 := hr g e.symm
      omega)
theorem OwnB.below {B : Nat} {v : Value} {l : List UInt8} {w w' : World} (h : OwnB B v l w) (hb : Below w.heap.size w w') : OwnB B v l w' :=
  h.kept (grown_below hb (Nat.le_refl _) none) (fun k hk => by cases hk)
theorem OwnB.drew {B : Nat} {v : Value} {l : List UInt8} {w : World} (h : OwnB B v l w) : OwnB B v l w.drew := h
/-- A block below B is written, nothing else. -/
theorem OwnB.slice {B : Nat} {v : Value} {l : List UInt8} {w : World} (h : OwnB B v l w) : ∃ a cap, v = .slice a l.length cap := by
  rcases h.2 with ⟨rfl, h0⟩ | ⟨g, cap, cur, rfl, _⟩
  · exact ⟨none, 0, by rw [h0]⟩
  · exact ⟨_, _, rfl⟩
/-- Where it is not empty: its cells. -/
theorem OwnB.row {B : Nat} {v : Value} {l : List UInt8} {w : World} (h : OwnB B v l w) : (v = .slice none 0 0 ∧ l = []) ∨ ∃ g cap, v = .slice (some ⟨g, 0, none⟩) l.length cap ∧ B ≤ g ∧ g < w.heap.size ∧ l.length ≤ cap ∧ cap ≤ maxLen ∧
    (∀ j c, l[j]? = some c → w.cell? ⟨g, j, none⟩ = some (.int .u8 (c.toNat : Int)) ∧ w.frozen? ⟨g, j, none⟩ = false) := by
  have h' := h
  rcases h.2 with ⟨rfl, h0⟩ | ⟨g, cap, cur, rfl, hB, hg, hn, hc, hsz, htk⟩
  · exact .inl ⟨rfl, List.length_eq_zero_iff.1 h0⟩
  · refine .inr ⟨g, cap, rfl, hB, (Array.getElem?_eq_some_iff.1 hg).1, hn, hc, fun j c hj => ⟨?_, ?_⟩⟩
    · have := World.ownsRow.cells h' rfl j (.int .u8 (c.toNat : Int)) (by simp [Lib.byteCells, hj])
      have e : (⟨g, 0, none⟩ : Addr).add j = ⟨g, j, none⟩ := by unfold Addr.add; split <;> simp_all
      rw [e] at this
      exact this
    · simp [World.frozen?, hg]

theorem wpList_append_byte {ops : Array Oper} {rest : List Oper} {o : Oper} {a : Act} {Q : Exit → Act → World → Prop} (hgd : o.guard = none) (s x : Operand)
    (ho : o.op = .call { callee := .builtin .append, args := #[s, x], argTypes := #[22, 22] })
    (B : Nat) (v : Value) (l : List UInt8) (c : UInt8) (X : Int) (w0 : World) (T : TypeId) (hs : a.eval s = v) (hown : OwnB B v l w0) (hx : a.eval x = .slice (some ⟨w0.heap.size, 0, none⟩) 1 1)
    (hlen : l.length + 1 ≤ 1000000000) (hB : B ≤ w0.heap.size) (hc : X = (c.toNat : Int))
    (h : ∀ v' w', OwnB B v' (l ++ [c]) w' → Below B w0 w' → w0.grownBy w' v.ownBlock → wpList Tryd.prog ops Q rest (a.put o.dst v') w') : wpList Tryd.prog ops Q (o :: rest) a (w0.alloc (.cells #[.int .u8 X] T)) := by
  obtain ⟨i0, hi, hz0, hz1, hz2⟩ := info_parts infoByteB
  refine wpList_append_own _ hgd s x 22 ho B 5 i0 (.int .u8 0) 1 1 Tryd.underlying22 hi hz0 hz1 hz2 rfl (by decide) v l.length (Lib.byteCells l) hs (World.ownsRow.alloc hown _) ⟨w0.heap.size, 0, none⟩ 1 1 [.int .u8 X] hx rfl ?_ ?_ ?_ ?_ ?_ ?_
  · intro j u hj
    match j, hj with
    | 0, hj => simp at hj; subst hj; simp [Addr.add]
  · intro u hu; simp at hu; subst hu; rfl
  · unfold maxLen; omega
  · omega
  · simp; omega
  · intro v' w' ho' hg' _
    refine h v' w' ?_ ?_ ?_
    · unfold OwnB
      rw [hc] at ho'
      simpa [Lib.byteCells] using ho'
    · exact ((Below.refl B w0).alloc hB _).grown hg' (by simp; omega) (fun k hk => (World.ownsRow.lt hown k hk).1)
    · exact grown_trans (World.grownBy_alloc w0 _ _) hg'

/-- The same in a region that draws its order. -/
theorem step_append_byte {ops : Array Oper} {o : Oper} {a : Act} {K : Act → World → Prop} {Q : Exit → Act → World → Prop} {E : Prop} (hgd : o.guard = none) (s x : Operand)
    (ho : o.op = .call { callee := .builtin .append, args := #[s, x], argTypes := #[22, 22] })
    (B : Nat) (v : Value) (l : List UInt8) (c : UInt8) (X : Int) (w0 : World) (T : TypeId) (hs : a.eval s = v) (hown : OwnB B v l w0) (hx : a.eval x = .slice (some ⟨w0.heap.size, 0, none⟩) 1 1)
    (hlen : l.length + 1 ≤ 1000000000) (hB : B ≤ w0.heap.size) (hc : X = (c.toNat : Int))
    (h : ∀ v' w', OwnB B v' (l ++ [c]) w' → Below B w0 w' → K (a.put o.dst v') w') :
    if Region.wanted o (yielded ops a.tmps) = true then Oper.wp Tryd.prog o a (w0.alloc (.cells #[.int .u8 X] T)).drew K Q else E := by
  have hw : Region.wanted o (yielded ops a.tmps) = true := by simp [Region.wanted, hgd]
  rw [if_pos hw]
  obtain ⟨i0, hi, hz0, hz1, hz2⟩ := info_parts infoByteB
  refine wp_append_own _ s x 22 ho B 5 i0 (.int .u8 0) 1 1 Tryd.underlying22 hi hz0 hz1 hz2 rfl (by decide) v l.length (Lib.byteCells l) hs (show (w0.alloc (.cells #[.int .u8 X] T)).drew.ownsRow B 5 1 v l.length (Lib.byteCells l) from World.ownsRow.alloc hown _) ⟨w0.heap.size, 0, none⟩ 1 1 [.int .u8 X] hx rfl ?_ ?_ ?_ ?_ ?_ ?_
  · intro j u hj
    match j, hj with
    | 0, hj =>
      simp at hj; subst hj
      show (w0.alloc (.cells #[.int .u8 X] T)).cell? _ = _
      simp [Addr.add]
  · intro u hu; simp at hu; subst hu; rfl
  · unfold maxLen; omega
  · omega
  · show B ≤ (w0.alloc (.cells #[.int .u8 X] T)).heap.size
    simp; omega
  · intro v' w' ho' hg' _
    refine h v' w' ?_ ?_
    · unfold OwnB
      rw [hc] at ho'
      simpa [Lib.byteCells] using ho'
    · have hg2 : (w0.alloc (.cells #[.int .u8 X] T)).grownBy w' v.ownBlock := ⟨hg'.os, hg'.tape, hg'.output, hg'.size, hg'.block⟩
      exact ((Below.refl B w0).alloc hB _).grown hg2 (by simp; omega) (fun k hk => (World.ownsRow.lt hown k hk).1)

/-- string(b) -/
theorem OwnB.string {B : Nat} {v : Value} {l : List UInt8} {w : World} (h : OwnB B v l w) : (convert 22 9 v).run Tryd.prog w = .ok (.string (mkB l)) w := by
  rcases h.row with ⟨rfl, rfl⟩ | ⟨g, cap, rfl, _, _, _, _, hc⟩
  · exact run_convert_bytes_nil w 22 5 Tryd.underlying22 Tryd.underlying5 0 0 9 Tryd.underlying9
  · exact run_convert_bytes_back w 22 9 5 ⟨g, 0, none⟩ cap l Tryd.underlying22 Tryd.underlying5 Tryd.underlying9 (fun j hj => by
      have h1 := (hc j l[j] (List.getElem?_eq_getElem hj)).1
      have e : (⟨g, 0, none⟩ : Addr).add j = ⟨g, j, none⟩ := by unfold Addr.add; split <;> simp_all
      rw [e]; exact h1)
end Go.Proofs.YtddnjdapdcopgaaDoor
