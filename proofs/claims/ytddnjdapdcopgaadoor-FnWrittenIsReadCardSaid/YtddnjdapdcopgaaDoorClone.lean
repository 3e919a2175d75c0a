/- bytes.Clone of an argument, and bytes' reader over it. -/
import Derived.Test.YtddnjdapdcopgaaDoorReadA
import Derived.Test.YtddnjdapdcopgaaDoorSortL
namespace Go.Proofs.YtddnjdapdcopgaaDoor
open Go.RowKit

/-- A slice of bytes that came in. -/
def ArgB (v : Value) (l : List UInt8) (w : World) : Prop :=
  (∃ n c, v = .slice none n c ∧ l = []) ∨ ∃ a c, v = .slice (some a) l.length c ∧ ∀ j x, l[j]? = some x → w.cell? (a.add j) = some (.int .u8 (x.toNat : Int))

theorem clone_any (v : Value) (l : List UInt8) (w : World) (h : ArgB v l w) (hl : l.length ≤ 1000000000) :
    Calls Tryd.prog 17 #[v] w fun e w' => ∃ v', e = .returned v' ∧ OwnB w.heap.size v' l w' ∧ Below w.heap.size w w' := by
  rcases h with ⟨n, c, rfl, rfl⟩ | ⟨a, c, rfl, hc⟩
  · refine (Tryd.bytes_Clone_nil n c w).mono ?_
    rintro e w' ⟨rfl, rfl⟩
    exact ⟨_, rfl, OwnB.nil _ _, Below.refl _ _⟩
  · refine (Tryd.bytes_Clone_at a l.length c (l.map (fun x => (x.toNat : Int))) w (by simp) (by omega) (fun i hi => ?_)).mono ?_
    · have h1 := hc i l[i] (List.getElem?_eq_getElem hi)
      rw [h1, List.getD_eq_getElem?_getD, List.getElem?_map, List.getElem?_eq_getElem hi]
      rfl
    · rintro e w' ⟨v', rfl, ho, _, hb⟩
      refine ⟨v', rfl, ?_, hb⟩
      unfold OwnB
      have e : (l.map (fun x => (x.toNat : Int))).map (Value.int .u8) = Lib.byteCells l := by simp [Lib.byteCells]
      rw [← e]
      exact ho

/-- The two sentinels that the readers look at. -/
structure Sent2 (eof full : Addr) (w : World) : Prop where
  eo : w.cell? ⟨0, 0, none⟩ = some (eofV eof)
  fu : w.cell? ⟨2, 0, none⟩ = some (eofV full)
  eb : ∃ C t, w.heap[eof.block]? = some (.cells C t (0, 0))
  fb : ∃ C t, w.heap[full.block]? = some (.cells C t (0, 0))
  ne : eof ≠ full
theorem Sent2.only {eof full : Addr} {w w' : World} (h : Sent2 eof full w) (k : Only [] w w') : Sent2 eof full w' :=
  ⟨k.cell (by simp) h.eo, k.cell (by simp) h.fu, k.blk (by simp) h.eb, k.blk (by simp) h.fb, h.ne⟩

theorem rdAt_made {w w1 w2 : World} {eof full : Addr} {v : Value} {l : List UInt8} {S : Nat} (hl : l.length ≤ 1000000000) (hs0 : Sent2 eof full w) (ho : OwnB w.heap.size v l w1) (hb : Below w.heap.size w w1) (hS : w1.heap.size ≤ S) (k : Only [] w1 w2) (hs : ∃ pv, Ob w2 S 74 (rdS v 0 pv)) :
    ∃ D p scap, v = .slice p l.length scap ∧ RdAt S D l p scap eof full w2 := by
  have h1 := hs0.only (Only.of_below hb)
  have h2 := h1.only k
  have g1 : 0 < w1.heap.size := block_lt_of_cell h1.eo
  have g2 : 2 < w1.heap.size := block_lt_of_cell h1.fu
  obtain ⟨C1, t1, e1⟩ := h1.eb
  obtain ⟨C2, t2, e2⟩ := h1.fb
  have g3 := (Array.getElem?_eq_some_iff.1 e1).1
  have g4 := (Array.getElem?_eq_some_iff.1 e2).1
  have gs : 0 ≠ S ∧ 2 ≠ S ∧ eof.block ≠ S ∧ full.block ≠ S := ⟨by omega, by omega, by omega, by omega⟩
  obtain ⟨pv, hs⟩ := hs
  rcases ho.row with ⟨rfl, rfl⟩ | ⟨g, cap, rfl, hB, hg, hcap, _, hc⟩
  · exact ⟨0, none, 0, rfl, ⟨⟨pv, hs⟩, fun j x hj => by simp at hj, fun h => absurd rfl h, Nat.le_refl _, hl, gs.1, Nat.lt_of_lt_of_le g1 k.size, h2.eo, h2.fu, h2.eb, h2.fb, h2.ne, gs⟩⟩
  · exact ⟨g, _, cap, rfl, ⟨⟨pv, hs⟩, fun j x hj => k.cell (by simp) (hc j x hj).1, fun _ => rfl, hcap, hl, by omega, Nat.lt_of_lt_of_le hg k.size, h2.eo, h2.fu, h2.eb, h2.fb, h2.ne, gs⟩⟩
end Go.Proofs.YtddnjdapdcopgaaDoor
