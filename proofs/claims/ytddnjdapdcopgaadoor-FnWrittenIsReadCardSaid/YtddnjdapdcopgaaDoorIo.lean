/- Blocks known whole, bytes put into them, and what a call leaves alone. -/
import Derived.Test.YtddnjdapdcopgaaDoorBase
import Derived.Test.YtddnjdapdcopgaaDoorRow
import Derived.Laws.CopyOwn
import Derived.Laws.Tables
import Derived.StillTailTactics
import Derived.Deep.RegionHeld3
import Derived.Deep.QuietTactic
import Derived.BigQuiet
import Derived.Outline
namespace Go.Proofs.YtddnjdapdcopgaaDoor
open Go.RowKit

theorem splice_get {α : Type} (L : List α) (o : Nat) (cs : List α) (h : o + cs.length ≤ L.length) (j : Nat) : (splice L o cs)[j]? = if j < o then L[j]? else if j < o + cs.length then cs[j - o]? else L[j]? := by
  unfold splice
  by_cases h1 : j < o
  · rw [if_pos h1, List.getElem?_append_left (by rw [List.length_take]; omega), List.getElem?_take_of_lt h1]
  · rw [if_neg h1, List.getElem?_append_right (by rw [List.length_take]; omega), List.length_take, Nat.min_eq_left (by omega)]
    by_cases h2 : j < o + cs.length
    · rw [if_pos h2, List.getElem?_append_left (by omega)]
    · rw [if_neg h2, List.getElem?_append_right (by omega), List.getElem?_drop]
      congr 1; omega
theorem splice_cons {α : Type} (L : List α) (o : Nat) (x : α) (r : List α) (h : o + (r.length + 1) ≤ L.length) : splice (L.set o x) (o + 1) r = splice L o (x :: r) := by
  apply List.ext_getElem?
  intro j
  rw [splice_get _ _ _ (by simp; omega), splice_get _ _ _ (by simpa using h)]
  by_cases h1 : j < o
  · rw [if_pos (by omega), if_pos h1, List.getElem?_set_ne (by omega)]
  · rw [if_neg h1]
    by_cases h2 : j = o
    · subst h2
      rw [if_pos (by omega), if_pos (by simp), List.getElem?_set_self (by omega)]
      simp
    · rw [if_neg (by omega), List.getElem?_set_ne (by omega)]
      obtain ⟨t, rfl⟩ : ∃ t, j = o + 1 + t := ⟨j - o - 1, by omega⟩
      rw [List.length_cons]
      by_cases h3 : o + 1 + t < o + 1 + r.length
      · rw [if_pos h3, if_pos (by omega), show o + 1 + t - (o + 1) = t by omega, show o + 1 + t - o = t + 1 by omega, List.getElem?_cons_succ]
      · rw [if_neg h3, if_neg (by omega)]
theorem splice_nil {α : Type} (L : List α) (o : Nat) : splice L o [] = L := by simp [splice]
theorem grown_setAt (w : World) (b o : Nat) (v : Value) : w.grownBy (w.setCell ⟨b, o, none⟩ v) (some b) :=
  ⟨rfl, rfl, rfl, by simp [World.setCell], fun k _ hk => Below.heap_setCell _ _ _ _ (fun e => hk (by simp [e]))⟩
theorem bc_len (l : List UInt8) : (Lib.byteCells l).length = l.length := Lib.byteCells_length l
theorem grown_drewN (w : World) (n : Nat) (g : Option Nat) : w.grownBy (w.drewN n) g := ⟨rfl, rfl, rfl, Nat.le_refl _, fun _ _ _ => rfl⟩
theorem grown_cell {w w' : World} {g : Nat} (h : w.grownBy w' (some g)) {k j : Nat} {v : Value} (hk : k ≠ g) (hc : w.cell? ⟨k, j, none⟩ = some v) : w'.cell? ⟨k, j, none⟩ = some v :=
  (World.cell?_of_block (h.block k (block_lt_of_cell hc) (fun e => hk (Option.some.inj e)))).trans hc
theorem splice_app {α : Type} (L : List α) (o : Nat) (A B : List α) (h : o + (A.length + B.length) ≤ L.length) : splice (splice L o A) (o + A.length) B = splice L o (A ++ B) := by
  apply List.ext_getElem?
  intro j
  rw [splice_get _ _ _ (by rw [length_splice _ _ _ (by omega)]; omega), splice_get _ _ _ (by omega), splice_get _ _ _ (by simp; omega)]
  by_cases h1 : j < o
  · rw [if_pos (by omega), if_pos h1, if_pos h1]
  · rw [if_neg h1, if_neg h1]
    by_cases h2 : j < o + A.length
    · rw [if_pos h2, if_pos h2, if_pos (by simp; omega), List.getElem?_append_left (by omega)]
    · rw [if_neg h2, if_neg h2]
      by_cases h3 : j < o + A.length + B.length
      · rw [if_pos h3, if_pos (by simp; omega), List.getElem?_append_right (by omega)]
        congr 1; omega
      · rw [if_neg h3, if_neg (by simp; omega)]

/-- A block's cells, whole. -/
def Ob (w : World) (g : Nat) (t : TypeId) (L : List Value) : Prop := w.heap[g]? = some (.cells L.toArray t (0, 0))
theorem Ob.cell {w : World} {g : Nat} {t : TypeId} {L : List Value} (h : Ob w g t L) (j : Nat) (v : Value) (hj : L[j]? = some v) : w.cell? ⟨g, j, none⟩ = some v := by
  rw [cell_of_row w _ _ _ _ _ h, List.getElem?_toArray, hj]
theorem Ob.free {w : World} {g : Nat} {t : TypeId} {L : List Value} (h : Ob w g t L) (j : Nat) : w.frozen? ⟨g, j, none⟩ = false := by
  unfold World.frozen?
  rw [show w.heap[g]? = _ from h]
  simp
theorem Ob.set {w : World} {g : Nat} {t : TypeId} {L : List Value} (h : Ob w g t L) (o : Nat) (v : Value) : Ob (w.setCell ⟨g, o, none⟩ v) g t (L.set o v) := by
  have h2 : w.heap[g]? = some (.cells L.toArray t (0, 0)) := h
  unfold Ob World.setCell
  simp [Array.getElem?_modify, h2]
theorem Ob.lt {w : World} {g : Nat} {t : TypeId} {L : List Value} (h : Ob w g t L) : g < w.heap.size := (Array.getElem?_eq_some_iff.1 h).1
theorem Ob.same {w w' : World} {g : Nat} {t : TypeId} {L : List Value} (h : Ob w g t L) (e : w'.heap[g]? = w.heap[g]?) : Ob w' g t L := e.trans h
theorem Ob.drewN {w : World} {g : Nat} {t : TypeId} {L : List Value} (h : Ob w g t L) (n : Nat) : Ob (w.drewN n) g t L := h
/-- copy into a block that is known whole. -/
theorem wpList_copy_ob {P : Program} {w : World} {ops : Array Oper} {rest : List Oper} {o : Oper} {a : Act} {Q : Exit → Act → World → Prop} (hgd : o.guard = none) (d s : Operand) (dT sT : TypeId)
    (ho : o.op = .call { callee := .builtin .copy, args := #[d, s], argTypes := #[dT, sT] }) (elem : TypeId) (hu : P.underlying dT = some (.slice elem)) (hsz : (P.info? elem).map (·.size) = some 1)
    (g off dLen dCap : Nat) (sp : Option Addr) (sLen sCap : Nat) (hd : a.eval d = .slice (some ⟨g, off, none⟩) dLen dCap) (hs : a.eval s = .slice sp sLen sCap)
    (L : List Value) (t : TypeId) (hg : Ob w g t L) (cs : List Value) (hn : cs.length = Nat.min sLen dLen)
    (hpos : 0 < cs.length → ∃ ad, sp = some ad ∧ ∀ j v, cs[j]? = some v → w.cell? (ad.add j) = some v)
    (hfit : off + cs.length ≤ L.length) (h1 : ∀ v ∈ cs, v.oneCell' = true)
    (h : ∀ w', Hid (Ob w' g t (splice L off cs)) → Hid (w.grownBy w' (some g)) → wpList P ops Q rest (a.put o.dst (goInt cs.length)) w') :
    wpList P ops Q (o :: rest) a w := by
  by_cases h0 : cs.length = 0
  · obtain rfl : cs = [] := List.eq_nil_of_length_eq_zero h0
    refine wpList_copy_nothing hgd d s dT sT ho elem hu hsz _ sp dLen dCap sLen sCap hd hs (by simpa using hn.symm) ?_
    exact h w (show _ = _ by rw [splice_nil]; exact hg) (grown_refl _ _)
  · obtain ⟨ad, rfl, hsrc⟩ := hpos (by omega)
    refine wpList_copy_own hgd d s dT sT ho elem hu hsz g off dLen dCap ad sLen sCap hd hs L.toArray t hg cs hn hsrc (by simpa using hfit) h1 ?_
    refine h _ (show _ = _ from ?_) (show World.grownBy _ _ _ from ⟨rfl, rfl, rfl, by simp [World.setRow], fun k hk hne => setRow_other w g k _ (fun e => hne (by rw [e]))⟩)
    rw [setRow_heap w g _ _ t _ hg]
    simp [splice]

/-- Nothing that was there has changed but the blocks L. -/
structure Only (L : List Nat) (w w' : World) : Prop where
  os : w'.os = w.os
  tape : w'.tape = w.tape
  output : w'.output = w.output
  size : w.heap.size ≤ w'.heap.size
  kept : ∀ k, k < w.heap.size → k ∉ L → w'.heap[k]? = w.heap[k]?
theorem Only.refl (L : List Nat) (w : World) : Only L w w := ⟨rfl, rfl, rfl, Nat.le_refl _, fun _ _ _ => rfl⟩
theorem Only.trans {L : List Nat} {a b c : World} (h : Only L a b) (k : Only L b c) : Only L a c :=
  ⟨k.os.trans h.os, k.tape.trans h.tape, k.output.trans h.output, Nat.le_trans h.size k.size, fun i hi hn => (k.kept i (Nat.lt_of_lt_of_le hi h.size) hn).trans (h.kept i hi hn)⟩
theorem Only.mono {L M : List Nat} {w w' : World} (h : Only L w w') (hs : ∀ k, k ∈ L → k ∈ M) : Only M w w' :=
  ⟨h.os, h.tape, h.output, h.size, fun k hk hn => h.kept k hk (fun e => hn (hs k e))⟩
theorem Only.of_grown {w w' : World} {g : Nat} (h : w.grownBy w' (some g)) : Only [g] w w' :=
  ⟨h.os, h.tape, h.output, h.size, fun k hk hn => h.block k hk (fun e => hn (by rw [Option.some.inj e]; simp))⟩
theorem Only.of_below {w w' : World} (h : Below w.heap.size w w') : Only [] w w' := ⟨h.os, h.tape, h.output, h.size, fun k hk _ => h.block k hk⟩
theorem Only.of_row {w w' : World} {row : Option Nat} (h : w.grownBy w' row) : Only row.toList w w' :=
  ⟨h.os, h.tape, h.output, h.size, fun k hk hn => h.block k hk (fun e => hn (by rw [← e]; simp))⟩
/-- What is written lies in new memory. -/
theorem Only.fresh {L M : List Nat} {w w1 w2 : World} (h : Only L w w1) (k : Only M w1 w2) (hM : ∀ x, x ∈ M → w.heap.size ≤ x ∨ x ∈ L) : Only L w w2 :=
  ⟨k.os.trans h.os, k.tape.trans h.tape, k.output.trans h.output, Nat.le_trans h.size k.size, fun i hi hn => (k.kept i (Nat.lt_of_lt_of_le hi h.size) (fun e => by
    rcases hM i e with h1 | h1
    · omega
    · exact hn h1)).trans (h.kept i hi hn)⟩
theorem Only.below {L : List Nat} {B : Nat} {w w' : World} (h : Only L w w') (hL : ∀ k, k ∈ L → B ≤ k) (hB : B ≤ w.heap.size) : Below B w w' :=
  ⟨h.os, h.tape, h.output, h.size, fun k hk => h.kept k (by omega) (fun e => by have := hL k e; omega)⟩
theorem Only.cell {L : List Nat} {w w' : World} (h : Only L w w') {k j : Nat} {v : Value} (hk : k ∉ L) (hc : w.cell? ⟨k, j, none⟩ = some v) : w'.cell? ⟨k, j, none⟩ = some v :=
  (World.cell?_of_block (h.kept k (block_lt_of_cell hc) hk)).trans hc
theorem Only.set (w : World) (g o : Nat) (v : Value) : Only [g] w (w.setCell ⟨g, o, none⟩ v) := .of_grown (grown_setAt w g o v)
theorem Only.drewN (L : List Nat) (w : World) (n : Nat) : Only L w (w.drewN n) := ⟨rfl, rfl, rfl, Nat.le_refl _, fun _ _ _ => rfl⟩
theorem Ob.only {L : List Nat} {w w' : World} {g : Nat} {t : TypeId} {C : List Value} (h : Ob w g t C) (k : Only L w w') (hg : g ∉ L) : Ob w' g t C := h.same (k.kept g h.lt hg)
end Go.Proofs.YtddnjdapdcopgaaDoor
