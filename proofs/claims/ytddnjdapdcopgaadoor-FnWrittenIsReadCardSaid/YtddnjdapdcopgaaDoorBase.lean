/- Worlds that have grown, texts as lists of bytes: small lemmas. -/
import Derived.Test.YtddnjdapdcopgaaDoorRows
import Derived.WalkKit
import Derived.WalkSpells
import Derived.WalkLawsBesides
import Derived.BigCall
import Derived.Lib.IndexBytes
import Derived.Lib.OthersKept
import Derived.Lib.Strings
namespace Go.Proofs.YtddnjdapdcopgaaDoor
open Go.RowKit

/-- Hide a fact from the walk. -/
theorem hidF {p : Prop} (h : p) : Hid p := h

theorem grown_set (w : World) (b : Nat) (v : Value) : w.grownBy (w.setCell ⟨b, 0, none⟩ v) (some b) :=
  ⟨rfl, rfl, rfl, by simp [World.setCell], fun k _ hk => Below.heap_setCell _ _ _ _ (fun e => hk (by simp [e]))⟩
theorem grown_below {B : Nat} {w w' : World} (h : Below B w w') (hB : w.heap.size ≤ B) (row : Option Nat) : w.grownBy w' row :=
  ⟨h.os, h.tape, h.output, h.size, fun k hk _ => h.block k (by omega)⟩
theorem grown_then {B : Nat} {w wr w1 : World} {row : Option Nat} (h : w.grownBy wr row) (k : Below B wr w1) (hB : w.heap.size ≤ B) : w.grownBy w1 row :=
  ⟨k.os.trans h.os, k.tape.trans h.tape, k.output.trans h.output, Nat.le_trans h.size k.size, fun i hi hr => (k.block i (Nat.lt_of_lt_of_le hi hB)).trans (h.block i hi hr)⟩
theorem grown_refl (w : World) (row : Option Nat) : w.grownBy w row := ⟨rfl, rfl, rfl, Nat.le_refl _, fun _ _ _ => rfl⟩
theorem grown_trans {a b c : World} {row : Option Nat} (h : a.grownBy b row) (k : b.grownBy c row) : a.grownBy c row :=
  ⟨k.os.trans h.os, k.tape.trans h.tape, k.output.trans h.output, Nat.le_trans h.size k.size, fun i hi hr => (k.block i (Nat.lt_of_lt_of_le hi h.size) hr).trans (h.block i hi hr)⟩
theorem below_grown {B b : Nat} {w w' : World} (h : w.grownBy w' (some b)) (hb : B ≤ b) (hB : B ≤ w.heap.size) : Below B w w' :=
  ⟨h.os, h.tape, h.output, h.size, fun k hk => h.block k (by omega) (fun e => by cases e; omega)⟩

theorem drop_cons (s : ByteArray) (k : Nat) (h : k < s.size) : s.data.toList.drop k = s[k] :: s.data.toList.drop (k + 1) := by
  have hk : k < s.data.toList.length := by rw [Array.length_toList]; exact h
  rw [List.drop_eq_getElem_cons hk]
  rfl
theorem drop_end (s : ByteArray) (k : Nat) (h : ¬ k < s.size) : s.data.toList.drop k = [] := by
  apply List.drop_eq_nil_of_le
  rw [Array.length_toList]
  exact Nat.le_of_not_lt h

/-- The text of a list of bytes. -/
def mkB (l : List UInt8) : ByteArray := ⟨l.toArray⟩
theorem mkB_list (l : List UInt8) : (mkB l).data.toList = l := by simp [mkB]
theorem list_mkB (s : ByteArray) : mkB s.data.toList = s := by simp [mkB]
theorem size_mkB (l : List UInt8) : (mkB l).size = l.length := by simp [mkB, ByteArray.size]
theorem from_mkB (s : ByteArray) (k : Nat) : s.extract k s.size = mkB (s.data.toList.drop k) := by
  apply ByteArray.ext
  apply Array.ext'
  rw [Lib.extract_to_end]
  simp [mkB]

theorem size_of_list (s : ByteArray) : s.size = s.data.toList.length := by rw [Array.length_toList]; rfl
theorem get_of (s : ByteArray) (k : Nat) (h : k < s.size) : s.data.toList[k]? = some s[k] := by
  have h1 := drop_cons s k h
  rw [← List.head?_drop, h1]; rfl
theorem str_ne {a b : ByteArray} (h : a ≠ b) : (a.toList == b.toList) = false := by
  rw [beq_eq_false_iff_ne]
  intro e
  apply h
  rw [Lib.toList_data, Lib.toList_data] at e
  rw [← list_mkB a, ← list_mkB b, e]

end Go.Proofs.YtddnjdapdcopgaaDoor
