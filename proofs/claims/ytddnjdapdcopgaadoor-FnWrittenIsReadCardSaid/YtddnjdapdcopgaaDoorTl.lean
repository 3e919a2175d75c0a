/- zzInSet, zzTrimLeft of the parser, over any bytes. -/
import Derived.Test.YtddnjdapdcopgaaDoorFind
namespace Go.Proofs.YtddnjdapdcopgaaDoor
open Go.RowKit

def isWs (c : UInt8) : Bool := c == 32 || c == 9

/-- Without the spaces and tabs in front. -/
def trimL : List UInt8 → List UInt8
  | [] => []
  | c :: r => if isWs c then trimL r else c :: r

def eqB (c : Int) (d : UInt8) : Bool := c == (d.toNat : Int)

set_option maxHeartbeats 400000 in
theorem inSet_any (c : Int) (set : ByteArray) (w : World) (hset : ∀ i (h : i < set.size), (set[i]'h).toNat < 128) :
    Calls Tryd.prog 40 #[.int .i32 c, .string set] w fun e w' => e = .returned (.bool (set.data.toList.any (eqB c))) ∧ Below w.heap.size w w' := by
  have HS := hidF hset
  clear hset
  go_enter Tryd.func40, Tryd.ntmps40
  go_wp2
  go_loopw [] (fun wr => ∃ pos, pos ≤ set.size ∧ wr = w.iter set pos ∧ Hid ((set.data.toList.drop pos).any (eqB c) = set.data.toList.any (eqB c))) (fun wr => set.size - wr.iterPos w.heap.size)
  case atStart => exact ⟨0, Nat.zero_le _, rfl, rfl⟩
  case round =>
    obtain ⟨pos, hps, rfl, hany⟩ := hrel
    by_cases hp : pos < set.size
    · have hnx : ∀ ty, (Instr.next (.pointer (some ⟨w.heap.size, 0, none⟩)) true ty).run Tryd.prog (w.iter set pos) = _ := fun ty => run_next_ascii w set pos ty hp (HS.out pos hp)
      have hd := hidF (drop_cons set pos hp)
      by_cases he : eqB c (set[pos]'hp) = true
      · have he' : (c == ((set[pos]'hp).toNat : Int)) = true := he
        go_wp2
        go_ret
        refine ⟨?_, (Below.refl _ _).alloc (Nat.le_refl _) _⟩
        rw [← hany.out, hd.out, List.any_cons, he, Bool.true_or]
        rfl
      · have he' : (c == ((set[pos]'hp).toNat : Int)) = false := by simpa [eqB] using he
        go_wp2
        go_roundw
        case rel =>
          refine ⟨pos + 1, by omega, rfl, ?_⟩
          have h1 := hany.out
          rw [hd.out, List.any_cons, show eqB c (set[pos]'hp) = false from he', Bool.false_or] at h1
          exact h1
        case measure => simp; omega
    · have hnx : ∀ ty, (Instr.next (.pointer (some ⟨w.heap.size, 0, none⟩)) true ty).run Tryd.prog (w.iter set pos) = _ := fun ty => run_next_end w set pos ty hp
      go_wp2
      go_ret
      refine ⟨?_, (Below.refl _ _).alloc (Nat.le_refl _) _⟩
      rw [← hany.out, drop_end set pos hp]
      rfl

/-- Is the rune a space or a tab? -/
def wsI (c : Int) : Bool := c == 32 || c == 9

theorem inSet_ws (c : Int) (w : World) :
    Calls Tryd.prog 40 #[.int .i32 c, .string ⟨#[32, 9]⟩] w fun e w' => e = .returned (.bool (wsI c)) ∧ Below w.heap.size w w' := by
  refine (inSet_any c ⟨#[32, 9]⟩ w ?_).mono ?_
  · intro i h
    match i, h with
    | 0, _ => exact (by decide : (32 : UInt8).toNat < 128)
    | 1, _ => exact (by decide : (9 : UInt8).toNat < 128)
  · rintro e w' ⟨rfl, hb⟩
    refine ⟨?_, hb⟩
    simp [wsI, eqB]

/-- The text without the spaces and tabs in front. -/
def ltB (s : ByteArray) : ByteArray := mkB (trimL s.data.toList)

theorem wsI_ascii (c : UInt8) : wsI (c.toNat : Int) = isWs c := by
  unfold wsI isWs
  rw [Bool.eq_iff_iff]
  simp only [Bool.or_eq_true, beq_iff_eq]
  constructor
  · rintro (h | h)
    · left; apply UInt8.toNat_inj.1; simpa using (by omega : c.toNat = 32)
    · right; apply UInt8.toNat_inj.1; simpa using (by omega : c.toNat = 9)
  · rintro (rfl | rfl) <;> simp

/-- The rune at a place is a space or a tab just where the byte is one. -/
theorem wsI_decode (s : ByteArray) (pos : Nat) (h : pos < s.size) : wsI ((Utf8.decode s pos).1 : Int) = isWs (s[pos]'h) := by
  by_cases ha : (s[pos]'h).toNat < 128
  · rw [decode_ascii s pos h ha]; exact wsI_ascii _
  · have h1 := (decode_high s pos h (by omega)).1
    have e1 : isWs (s[pos]'h) = false := by
      unfold isWs
      rw [Bool.or_eq_false_iff]
      constructor <;> (rw [beq_eq_false_iff_ne]; intro e; rw [e] at ha; exact ha (by decide))
    rw [e1]
    simp [wsI]
    omega

set_option maxHeartbeats 400000 in
theorem trimLeft_any (s : ByteArray) (w : World) (_hs : s.size ≤ 9223372036854775807) :
    Calls Tryd.prog 30 #[.string s, .string ⟨#[32, 9]⟩] w fun e w' => e = .returned (.string (ltB s)) ∧ Below w.heap.size w w' := by
  go_enter Tryd.func30, Tryd.ntmps30
  go_wp2
  go_loopw [] (fun wr => ∃ pos, pos ≤ s.size ∧ wr.heap[w.heap.size]? = some (.stringIter s pos) ∧ Below w.heap.size w wr ∧ Hid (trimL (s.data.toList.drop pos) = trimL s.data.toList)) (fun wr => s.size - wr.iterPos w.heap.size)
  case atStart => exact ⟨0, Nat.zero_le _, World.iter_heap w s 0, (Below.refl _ _).alloc (Nat.le_refl _) _, rfl⟩
  case round =>
    obtain ⟨pos, hps, hit, hbw, htr⟩ := hrel
    have hsz : w.heap.size < wr.heap.size := (Array.getElem?_eq_some_iff.1 hit).1
    by_cases hp : pos < s.size
    · have hnx : ∀ ty, (Instr.next (.pointer (some ⟨w.heap.size, 0, none⟩)) true ty).run Tryd.prog wr = _ := fun ty => Lib.run_next_any_at wr w.heap.size s pos ty hit hp
      have hws := wsI_decode s pos hp
      have hd := hidF (drop_cons s pos hp)
      have hit2 := Lib.iterAt_heap wr w.heap.size s pos (pos + (Utf8.decode s pos).2) hit
      have hbw2 := Lib.below_iterAt hbw (k := w.heap.size) (Nat.le_refl _) s (pos + (Utf8.decode s pos).2)
      have hsz2 : (wr.iterAt w.heap.size s (pos + (Utf8.decode s pos).2)).heap.size = wr.heap.size := Lib.iterAt_size _ _ _ _
      by_cases hw : isWs (s[pos]'hp) = true
      · have hone : (Utf8.decode s pos).2 = 1 := by
          rw [decode_ascii s pos hp (by simp [isWs] at hw; rcases hw with h | h <;> simp [h])]
        rw [hw] at hws
        have H1 := hidF hone
        have H2 := hidF hit2
        have H3 := hidF hsz2
        clear hone hit2 hsz2
        go_wp2_with fail
        refine (inSet_ws _ _).mono ?_
        rintro e W1 ⟨rfl, hb1⟩
        have hit3 : W1.heap[w.heap.size]? = some (.stringIter s (pos + (Utf8.decode s pos).2)) := (hb1.block w.heap.size (by rw [H3.out]; exact hsz)).trans H2.out
        have hb3 : Below w.heap.size w W1 := hbw2.trans (hb1.mono (by rw [H3.out]; omega))
        have HI := hidF hit3
        clear hit3
        go_wp2
        go_roundw
        case rel =>
          refine ⟨pos + 1, by omega, by rw [HI.out, H1.out], hb3, ?_⟩
          have h1 := htr.out
          rw [hd.out, trimL, if_pos hw] at h1
          exact h1
        case measure =>
          simp only [World.iterPos, HI.out, hit, H1.out]
          omega
      · have hw' : isWs (s[pos]'hp) = false := by simpa using hw
        rw [hw'] at hws
        have H3 := hidF hsz2
        clear hsz2 hit2
        go_wp2_with fail
        refine (inSet_ws _ _).mono ?_
        rintro e W1 ⟨rfl, hb1⟩
        have hb3 : Below w.heap.size w W1 := hbw2.trans (hb1.mono (by rw [H3.out]; omega))
        go_wp2
        go_ret
        refine ⟨?_, hb3⟩
        have h1 := htr.out
        rw [hd.out, trimL, if_neg hw, ← hd.out] at h1
        rw [from_mkB, ltB, ← h1]
        rfl
    · have hnx : ∀ ty, (Instr.next (.pointer (some ⟨w.heap.size, 0, none⟩)) true ty).run Tryd.prog wr = _ := fun ty => Lib.run_next_end_at wr w.heap.size s pos ty hit hp
      go_wp2
      go_ret
      refine ⟨?_, hbw⟩
      have h1 := htr.out
      rw [drop_end s pos hp] at h1
      rw [ltB, ← h1]
      rfl


theorem trimL_ltrim : ∀ l : List UInt8, trimL l = ltrim l
  | [] => rfl
  | c :: r => by
    show (if isWs c = true then trimL r else c :: r) = List.dropWhile isBl (c :: r)
    rw [List.dropWhile_cons, trimL_ltrim r]
    rfl
theorem tl_any (l : List UInt8) (w : World) (hs : l.length ≤ 2147483647) :
    Calls Tryd.prog 30 #[.string (mkB l), .string ⟨#[32, 9]⟩] w fun e w' => e = .returned (.string (mkB (ltrim l))) ∧ Below w.heap.size w w' := by
  refine (trimLeft_any (mkB l) w (by show l.length ≤ _; omega)).mono ?_
  rintro e w' ⟨rfl, hb⟩
  refine ⟨?_, hb⟩
  unfold ltB
  rw [← trimL_ltrim]
  rfl
end Go.Proofs.YtddnjdapdcopgaaDoor
