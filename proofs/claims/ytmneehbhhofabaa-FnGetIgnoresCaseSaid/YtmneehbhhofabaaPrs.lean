/- The walks of the address parser's small methods: spaces and comments are skipped as the plain lists say. -/
import Derived.Test.YtmneehbhhofabaaRows
import Derived.Test.YtmneehbhhofabaaText
import Derived.Test.YtmneehbhhofabaaShelf
import Derived.Test.YtmneehbhhofabaaBld
import Derived.WalkKit
import Derived.WalkSpells
import Derived.WalkLawsBesides
import Derived.BigCall
import Derived.Lib.IndexBytes
namespace Go.Proofs.Ytmneehbhhofabaa
open Go.RowKit

/-- Hide a fact from the walk. -/
theorem hidF {p : Prop} (h : p) : Hid p := h

/-- The parser: a block of two cells, the text that is left and no decoder. -/
def PAt (b : Nat) (s : ByteArray) (w : World) : Prop := w.heap[b]? = some (.cells #[.string s, .pointer none] 40 (0, 0))

theorem PAt.cell {b : Nat} {s : ByteArray} {w : World} (h : PAt b s w) : w.cell? ⟨b, 0, none⟩ = some (.string s) := by
  unfold PAt at h; simp [World.cell?, h]
theorem PAt.free {b : Nat} {s : ByteArray} {w : World} (h : PAt b s w) : w.frozen? ⟨b, 0, none⟩ = false := by
  unfold PAt at h; simp [World.frozen?, h]
theorem PAt.lt {b : Nat} {s : ByteArray} {w : World} (h : PAt b s w) : b < w.heap.size := (Array.getElem?_eq_some_iff.1 h).1
theorem PAt.put {b : Nat} {s : ByteArray} {w : World} (h : PAt b s w) (t : ByteArray) : PAt b t (w.setCell ⟨b, 0, none⟩ (.string t)) := by
  unfold PAt at h ⊢
  simp [World.setCell, Array.getElem?_modify, h]
theorem PAt.below {B b : Nat} {s : ByteArray} {w w' : World} (h : PAt b s w) (k : Below B w w') (hb : b < B) : PAt b s w' := (k.block b hb).trans h
theorem PAt.made (w : World) (s : ByteArray) : PAt w.heap.size s (w.alloc (.cells #[.string s, .pointer none] 40)) := heap_alloc_new w _

theorem grown_set (w : World) (b : Nat) (v : Value) : w.grownBy (w.setCell ⟨b, 0, none⟩ v) (some b) :=
  ⟨rfl, rfl, rfl, by simp [World.setCell], fun k _ hk => Below.heap_setCell _ _ _ _ (fun e => hk (by simp [e]))⟩
theorem grown_below {B : Nat} {w w' : World} (h : Below B w w') (hB : w.heap.size ≤ B) (row : Option Nat) : w.grownBy w' row :=
  ⟨h.os, h.tape, h.output, h.size, fun k hk _ => h.block k (by omega)⟩
theorem grown_then {B : Nat} {w wr w1 : World} {row : Option Nat} (h : w.grownBy wr row) (k : Below B wr w1) (hB : w.heap.size ≤ B) : w.grownBy w1 row :=
  ⟨k.os.trans h.os, k.tape.trans h.tape, k.output.trans h.output, Nat.le_trans h.size k.size, fun i hi hr => (k.block i (Nat.lt_of_lt_of_le hi hB)).trans (h.block i hi hr)⟩
theorem grown_refl (w : World) (row : Option Nat) : w.grownBy w row := ⟨rfl, rfl, rfl, Nat.le_refl _, fun _ _ _ => rfl⟩
theorem grown_trans {a b c : World} {row : Option Nat} (h : a.grownBy b row) (k : b.grownBy c row) : a.grownBy c row :=
  ⟨k.os.trans h.os, k.tape.trans h.tape, k.output.trans h.output, Nat.le_trans h.size k.size, fun i hi hr => (k.block i (Nat.lt_of_lt_of_le hi h.size) hr).trans (h.block i hi hr)⟩
theorem below_grown {B b : Nat} {w w' : World} (h : w.grownBy w' (some b)) (hb : B ≤ b) (hB : B ≤ w.heap.size) : Below B w w' :=
  ⟨h.os, h.tape, h.output, h.size, fun k hk => h.block k (by omega) (fun e => by cases e; omega)⟩

theorem drop_cons (s : ByteArray) (k : Nat) (h : k < s.size) : s.data.toList.drop k = s[k] :: s.data.toList.drop (k + 1) := by
  have hk : k < s.data.toList.length := by rw [Array.length_toList]; exact h
  rw [List.drop_eq_getElem_cons hk]
  rfl
theorem drop_end (s : ByteArray) (k : Nat) (h : ¬ k < s.size) : s.data.toList.drop k = [] := by
  apply List.drop_eq_nil_of_le
  rw [Array.length_toList]
  exact Nat.le_of_not_lt h

/-- The text of a list of bytes. -/
def mkB (l : List UInt8) : ByteArray := ⟨l.toArray⟩
theorem mkB_list (l : List UInt8) : (mkB l).data.toList = l := by simp [mkB]
theorem list_mkB (s : ByteArray) : mkB s.data.toList = s := by simp [mkB]
theorem size_mkB (l : List UInt8) : (mkB l).size = l.length := by simp [mkB, ByteArray.size]
theorem from_mkB (s : ByteArray) (k : Nat) : s.extract k s.size = mkB (s.data.toList.drop k) := by
  apply ByteArray.ext
  apply Array.ext'
  rw [Lib.extract_to_end]
  simp [mkB]

def eqB (c : Int) (d : UInt8) : Bool := c == (d.toNat : Int)

set_option maxHeartbeats 400000 in
theorem inSet_any (c : Int) (set : ByteArray) (w : World) (hset : ∀ i (h : i < set.size), (set[i]'h).toNat < 128) :
    Calls Try.prog 30 #[.int .i32 c, .string set] w fun e w' => e = .returned (.bool (set.data.toList.any (eqB c))) ∧ Below w.heap.size w w' := by
  have HS := hidF hset
  clear hset
  go_enter Try.func30, Try.ntmps30
  go_wp2
  go_loopw [] (fun wr => ∃ pos, pos ≤ set.size ∧ wr = w.iter set pos ∧ Hid ((set.data.toList.drop pos).any (eqB c) = set.data.toList.any (eqB c))) (fun wr => set.size - wr.iterPos w.heap.size)
  case atStart => exact ⟨0, Nat.zero_le _, rfl, rfl⟩
  case round =>
    obtain ⟨pos, hps, rfl, hany⟩ := hrel
    by_cases hp : pos < set.size
    · have hnx : ∀ ty, (Instr.next (.pointer (some ⟨w.heap.size, 0, none⟩)) true ty).run Try.prog (w.iter set pos) = _ := fun ty => run_next_ascii w set pos ty hp (HS.out pos hp)
      have hd := hidF (drop_cons set pos hp)
      by_cases he : eqB c (set[pos]'hp) = true
      · have he' : (c == ((set[pos]'hp).toNat : Int)) = true := he
        go_wp2
        go_ret
        refine ⟨?_, (Below.refl _ _).alloc (Nat.le_refl _) _⟩
        rw [← hany.out, hd.out, List.any_cons, he, Bool.true_or]
        rfl
      · have he' : (c == ((set[pos]'hp).toNat : Int)) = false := by simpa [eqB] using he
        go_wp2
        go_roundw
        case rel =>
          refine ⟨pos + 1, by omega, rfl, ?_⟩
          have h1 := hany.out
          rw [hd.out, List.any_cons, show eqB c (set[pos]'hp) = false from he', Bool.false_or] at h1
          exact h1
        case measure => simp; omega
    · have hnx : ∀ ty, (Instr.next (.pointer (some ⟨w.heap.size, 0, none⟩)) true ty).run Try.prog (w.iter set pos) = _ := fun ty => run_next_end w set pos ty hp
      go_wp2
      go_ret
      refine ⟨?_, (Below.refl _ _).alloc (Nat.le_refl _) _⟩
      rw [← hany.out, drop_end set pos hp]
      rfl

/-- Is the rune a space or a tab? -/
def wsI (c : Int) : Bool := c == 32 || c == 9

theorem inSet_ws (c : Int) (w : World) :
    Calls Try.prog 30 #[.int .i32 c, .string ⟨#[32, 9]⟩] w fun e w' => e = .returned (.bool (wsI c)) ∧ Below w.heap.size w w' := by
  refine (inSet_any c ⟨#[32, 9]⟩ w ?_).mono ?_
  · intro i h
    match i, h with
    | 0, _ => exact (by decide : (32 : UInt8).toNat < 128)
    | 1, _ => exact (by decide : (9 : UInt8).toNat < 128)
  · rintro e w' ⟨rfl, hb⟩
    refine ⟨?_, hb⟩
    simp [wsI, eqB]

/-- The text without the spaces and tabs in front. -/
def trimB (s : ByteArray) : ByteArray := mkB (trimL s.data.toList)

theorem wsI_ascii (c : UInt8) : wsI (c.toNat : Int) = isWs c := by
  unfold wsI isWs
  rw [Bool.eq_iff_iff]
  simp only [Bool.or_eq_true, beq_iff_eq]
  constructor
  · rintro (h | h)
    · left; apply UInt8.toNat_inj.1; simpa using (by omega : c.toNat = 32)
    · right; apply UInt8.toNat_inj.1; simpa using (by omega : c.toNat = 9)
  · rintro (rfl | rfl) <;> simp

/-- The rune at a place is a space or a tab just where the byte is one. -/
theorem wsI_decode (s : ByteArray) (pos : Nat) (h : pos < s.size) : wsI ((Utf8.decode s pos).1 : Int) = isWs (s[pos]'h) := by
  by_cases ha : (s[pos]'h).toNat < 128
  · rw [decode_ascii s pos h ha]; exact wsI_ascii _
  · have h1 := (decode_high s pos h (by omega)).1
    have e1 : isWs (s[pos]'h) = false := by
      unfold isWs
      rw [Bool.or_eq_false_iff]
      constructor <;> (rw [beq_eq_false_iff_ne]; intro e; rw [e] at ha; exact ha (by decide))
    rw [e1]
    simp [wsI]
    omega

set_option maxHeartbeats 400000 in
theorem trimLeft_any (s : ByteArray) (w : World) (_hs : s.size ≤ 9223372036854775807) :
    Calls Try.prog 22 #[.string s, .string ⟨#[32, 9]⟩] w fun e w' => e = .returned (.string (trimB s)) ∧ Below w.heap.size w w' := by
  go_enter Try.func22, Try.ntmps22
  go_wp2
  go_loopw [] (fun wr => ∃ pos, pos ≤ s.size ∧ wr.heap[w.heap.size]? = some (.stringIter s pos) ∧ Below w.heap.size w wr ∧ Hid (trimL (s.data.toList.drop pos) = trimL s.data.toList)) (fun wr => s.size - wr.iterPos w.heap.size)
  case atStart => exact ⟨0, Nat.zero_le _, World.iter_heap w s 0, (Below.refl _ _).alloc (Nat.le_refl _) _, rfl⟩
  case round =>
    obtain ⟨pos, hps, hit, hbw, htr⟩ := hrel
    have hsz : w.heap.size < wr.heap.size := (Array.getElem?_eq_some_iff.1 hit).1
    by_cases hp : pos < s.size
    · have hnx : ∀ ty, (Instr.next (.pointer (some ⟨w.heap.size, 0, none⟩)) true ty).run Try.prog wr = _ := fun ty => Lib.run_next_any_at wr w.heap.size s pos ty hit hp
      have hws := wsI_decode s pos hp
      have hd := hidF (drop_cons s pos hp)
      have hit2 := Lib.iterAt_heap wr w.heap.size s pos (pos + (Utf8.decode s pos).2) hit
      have hbw2 := Lib.below_iterAt hbw (k := w.heap.size) (Nat.le_refl _) s (pos + (Utf8.decode s pos).2)
      have hsz2 : (wr.iterAt w.heap.size s (pos + (Utf8.decode s pos).2)).heap.size = wr.heap.size := Lib.iterAt_size _ _ _ _
      by_cases hw : isWs (s[pos]'hp) = true
      · have hone : (Utf8.decode s pos).2 = 1 := by
          rw [decode_ascii s pos hp (by simp [isWs] at hw; rcases hw with h | h <;> simp [h])]
        rw [hw] at hws
        have H1 := hidF hone
        have H2 := hidF hit2
        have H3 := hidF hsz2
        clear hone hit2 hsz2
        go_wp2_with fail
        refine (inSet_ws _ _).mono ?_
        rintro e W1 ⟨rfl, hb1⟩
        have hit3 : W1.heap[w.heap.size]? = some (.stringIter s (pos + (Utf8.decode s pos).2)) := (hb1.block w.heap.size (by rw [H3.out]; exact hsz)).trans H2.out
        have hb3 : Below w.heap.size w W1 := hbw2.trans (hb1.mono (by rw [H3.out]; omega))
        have HI := hidF hit3
        clear hit3
        go_wp2
        go_roundw
        case rel =>
          refine ⟨pos + 1, by omega, by rw [HI.out, H1.out], hb3, ?_⟩
          have h1 := htr.out
          rw [hd.out, trimL, if_pos hw] at h1
          exact h1
        case measure =>
          simp only [World.iterPos, HI.out, hit, H1.out]
          omega
      · have hw' : isWs (s[pos]'hp) = false := by simpa using hw
        rw [hw'] at hws
        have H3 := hidF hsz2
        clear hsz2 hit2
        go_wp2_with fail
        refine (inSet_ws _ _).mono ?_
        rintro e W1 ⟨rfl, hb1⟩
        have hb3 : Below w.heap.size w W1 := hbw2.trans (hb1.mono (by rw [H3.out]; omega))
        go_wp2
        go_ret
        refine ⟨?_, hb3⟩
        have h1 := htr.out
        rw [hd.out, trimL, if_neg hw, ← hd.out] at h1
        rw [from_mkB, trimB, ← h1]
        rfl
    · have hnx : ∀ ty, (Instr.next (.pointer (some ⟨w.heap.size, 0, none⟩)) true ty).run Try.prog wr = _ := fun ty => Lib.run_next_end_at wr w.heap.size s pos ty hit hp
      go_wp2
      go_ret
      refine ⟨?_, hbw⟩
      have h1 := htr.out
      rw [drop_end s pos hp] at h1
      rw [trimB, ← h1]
      rfl

theorem skipSpace_any (b : Nat) (s : ByteArray) (w : World) (hP : PAt b s w) (hs : s.size ≤ 9223372036854775807) :
    Calls Try.prog 18 #[.pointer (some ⟨b, 0, none⟩)] w fun e w' => e = .returned (.tuple #[]) ∧ PAt b (trimB s) w' ∧ w.grownBy w' (some b) := by
  have hc := hP.cell
  have hlt := hP.lt
  go_enter Try.func18, Try.ntmps18
  go_wp2_with fail
  refine (trimLeft_any s _ hs).mono ?_
  rintro e W1 ⟨rfl, hb1⟩
  have hP1 := hP.below hb1 hlt
  have hc1 := hP1.cell
  have hf1 := hP1.free
  go_wp2
  go_end0
  exact ⟨rfl, hP1.put _, grown_trans (grown_below hb1 (Nat.le_refl _) _) (grown_set _ _ _)⟩

end Go.Proofs.Ytmneehbhhofabaa
