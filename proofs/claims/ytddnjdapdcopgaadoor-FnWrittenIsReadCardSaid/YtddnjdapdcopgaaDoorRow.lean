/- Rows of bytes that the call itself has made: what a conversion of a string lays, what a store does to it, what it reads back as. -/
import Derived.Test.YtddnjdapdcopgaaDoorBase
import Derived.Laws.IdiomStrings
namespace Go.Proofs.YtddnjdapdcopgaaDoor
open Go.RowKit

/-- The first cells of block b are the bytes l, and may be written. -/
def Row (w : World) (b : Nat) (l : List UInt8) : Prop :=
  ∀ j c, l[j]? = some c → w.cell? ⟨b, j, none⟩ = some (.int .u8 (c.toNat : Int)) ∧ w.frozen? ⟨b, j, none⟩ = false

theorem Row.cell {w : World} {b : Nat} {l : List UInt8} (h : Row w b l) {j : Nat} {c : UInt8} (hj : l[j]? = some c) : w.cell? ⟨b, j, none⟩ = some (.int .u8 (c.toNat : Int)) := (h j c hj).1
theorem Row.free {w : World} {b : Nat} {l : List UInt8} (h : Row w b l) {j : Nat} {c : UInt8} (hj : l[j]? = some c) : w.frozen? ⟨b, j, none⟩ = false := (h j c hj).2
theorem Row.set {w : World} {b : Nat} {l : List UInt8} (h : Row w b l) (k : Nat) (x : UInt8) : Row (w.setCell ⟨b, k, none⟩ (.int .u8 (x.toNat : Int))) b (l.set k x) := by
  intro j c hj
  by_cases hjk : j = k
  · subst hjk
    rw [List.getElem?_set] at hj
    simp at hj
    obtain ⟨hl, rfl⟩ := hj
    have h0 := h j l[j] (List.getElem?_eq_getElem hl)
    exact ⟨World.cell?_setCell_same _ _ _ h0.1, by rw [World.frozen?_setCell]; exact h0.2⟩
  · rw [List.getElem?_set_ne (by omega)] at hj
    have h0 := h j c hj
    exact ⟨by rw [World.cell?_setCell_other _ _ _ _ (by intro e; injection e; omega)]; exact h0.1, by rw [World.frozen?_setCell]; exact h0.2⟩
theorem Row.same {w w' : World} {b : Nat} {l : List UInt8} (h : Row w b l) (hb : w'.heap[b]? = w.heap[b]?) : Row w' b l := fun j c hj =>
  ⟨(World.cell?_of_block hb).trans (h j c hj).1, (World.frozen?_of_block hb).trans (h j c hj).2⟩
theorem Row.below {B : Nat} {w w' : World} {b : Nat} {l : List UInt8} (h : Row w b l) (k : Below B w w') (hb : b < B) : Row w' b l := h.same (k.block b hb)

theorem list_get (s : ByteArray) (j : Nat) (c : UInt8) (h : s.data.toList[j]? = some c) : ∃ hj : j < s.data.size, s.data[j] = c := by
  rw [List.getElem?_eq_some_iff] at h
  obtain ⟨hj, he⟩ := h
  rw [Array.length_toList] at hj
  exact ⟨hj, by rw [← he]; rfl⟩

/-- []byte(s): a row of the string's bytes in a new block. -/
theorem bytes_of (s : ByteArray) (w : World) (hs : s.size ≤ maxLen) : ∃ cap w1, (convert 9 22 (.string s)).run Tryd.prog w = .ok (.slice (some ⟨w.heap.size, 0, none⟩) s.size cap) w1 ∧
    s.size ≤ cap ∧ cap ≤ 9223372036854775807 ∧ Row w1 w.heap.size s.data.toList ∧ Below w.heap.size w w1 ∧ w.heap.size < w1.heap.size := by
  have hr := run_bytes_of_string (P := Tryd.prog) w 9 22 5 s Tryd.underlying9 Tryd.underlying22 Tryd.underlying5
  refine ⟨_, _, hr, grownCap_ge w s.size 0 _, ?_, ?_, ?_, ?_⟩
  · exact grownCap_le_maxLen w s.size 0 _ hs
  · intro j c hj
    obtain ⟨hj1, he⟩ := list_get s j c hj
    have hat := bytesRow_at s (grownCap w s.size 0 5) j hj1
    have hlt : j < (bytesRow s (grownCap w s.size 0 5)).size := (Array.getElem?_eq_some_iff.1 hat).1
    generalize bytesRow s (grownCap w s.size 0 5) = C at hat hlt ⊢
    have h1 := World.cell?_alloc_mark w.drew C 5 (C.size, C.size + 1) j
    have h2 := World.frozen?_alloc_mark w.drew C 5 C.size (C.size + 1) j
    refine ⟨(h1.trans hat).trans (by rw [he]), h2.trans ?_⟩
    simp; omega
  · exact ((Below.refl _ w).drew).alloc (Nat.le_refl _) _
  · show w.heap.size < (w.heap.push _).size; simp

/-- string(b). -/
theorem Row.back {w : World} {b : Nat} {l : List UInt8} (h : Row w b l) (cap : Nat) : (convert 22 9 (.slice (some ⟨b, 0, none⟩) l.length cap)).run Tryd.prog w = .ok (.string (mkB l)) w :=
  run_convert_bytes_back w 22 9 5 ⟨b, 0, none⟩ cap l Tryd.underlying22 Tryd.underlying5 Tryd.underlying9 (fun j hj => by
    have h1 := h.cell (List.getElem?_eq_getElem hj)
    have e : (⟨b, 0, none⟩ : Addr).add j = ⟨b, j, none⟩ := by unfold Addr.add; split <;> simp_all
    rw [e]; exact h1)

end Go.Proofs.YtddnjdapdcopgaaDoor
