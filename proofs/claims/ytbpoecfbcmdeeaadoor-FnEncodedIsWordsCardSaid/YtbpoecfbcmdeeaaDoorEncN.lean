/- gomime's isUTF8 and needsEncoding, the law's plain: the walks. -/
import Derived.Test.YtbpoecfbcmdeeaaDoorEncW
import Derived.Lib.OthersKept
namespace Go.Proofs.YtbpoecfbcmdeeaaDoor
open Go.RowKit

def okP (c : UInt8) : Bool := (decide (32 ≤ c.toNat) && decide (c.toNat ≤ 126)) || c == 9
def plainL (l : List UInt8) : Bool := l.all okP

theorem isUTF8_any (w : World) :
    Calls Tryd.prog 57 #[.string utfS] w fun e w' => e = .returned (.bool true) ∧ w = w' := by
  have hc := hidF (show Calls Tryd.prog 46 #[.string utfS, .string ⟨#[85, 84, 70, 45, 56]⟩] w fun e w' => e = .returned (.bool true) ∧ w = w' from
    (Tryd.strings_EqualFold utfS ⟨#[85, 84, 70, 45, 56]⟩ w (by decide) (at_of_mem (by decide)) (at_of_mem (by decide))).mono (by
      rintro e w' ⟨rfl, rfl⟩
      exact ⟨by rfl, rfl⟩))
  go_enter Tryd.func57, Tryd.ntmps57
  go_wp2_with fail
  refine hc.out.mono ?_
  rintro e w1 ⟨rfl, rfl⟩
  go_wp2_with fail
  go_ret
  exact ⟨rfl, rfl⟩

set_option maxHeartbeats 2000000 in
set_option maxRecDepth 100000 in
theorem needs_any (s : ByteArray) (w : World) :
    Calls Tryd.prog 22 #[.string s] w fun e w' => e = .returned (.bool (!plainL s.data.toList)) ∧ Below w.heap.size w w' := by
  have Hsl := hidF (size_of_list s)
  go_enter Tryd.func22, Tryd.ntmps22
  go_wp2_with fail
  go_loopw [2] (fun rv wr => ∃ k : Nat, k ≤ s.size ∧ rv = .bool false ∧ wr.heap[w.heap.size]? = some (.stringIter s k) ∧ Below w.heap.size w wr ∧ Hid ((s.data.toList.take k).all okP = true)) (fun _ wr => s.size - wr.iterPos w.heap.size)
  case atStart => exact ⟨0, Nat.zero_le _, rfl, World.iter_heap w s 0, (Below.refl w.heap.size w).alloc (Nat.le_refl _) _, hidF rfl⟩
  case round =>
    obtain ⟨k, hk, rfl, hit, hb, hst⟩ := hrel
    by_cases hp : k < s.size
    · have hgk := get_of s k hp
      by_cases hok : okP s[k] = true
      · have hr : (32 ≤ s[k].toNat ∧ s[k].toNat ≤ 126) ∨ s[k] = 9 := by simpa [okP] using hok
        have ha : s[k].toNat < 128 := by
          rcases hr with h | h
          · omega
          · rw [h]; decide
        have hnx : ∀ ty, (Instr.next (.pointer (some ⟨w.heap.size, 0, none⟩)) true ty).run Tryd.prog wr = _ := fun ty => Lib.run_next_ascii_at wr w.heap.size s k ty hit hp ha
        have hit2 := Lib.iterAt_heap wr w.heap.size s k (k + 1) hit
        have hb2 := Lib.below_iterAt hb (k := w.heap.size) (Nat.le_refl _) s (k + 1)
        have Hit := hidF hit
        have hn := hidF (show (s.data.toList.take (k + 1)).all okP = true by
          rw [List.take_add_one, hgk, List.all_append, hst.out]; simp [hok])
        rcases hr with h | h
        · have q1 : ¬ (s[k].toNat : Int) < 32 := by omega
          have q2 : ¬ (126 : Int) < (s[k].toNat : Int) := by omega
          clear h hok hgk hst hit ha
          go_wp2_with fail
          go_roundw
          case rel => exact ⟨k + 1, by omega, rfl, hit2, hb2, hn⟩
          case measure =>
            simp only [World.iterPos, hit2, Hit.out]
            omega
        · have q1 : (s[k].toNat : Int) < 32 := by rw [h]; decide
          have q3 : ((s[k].toNat : Int) != 9) = false := by rw [h]; rfl
          clear h hok hgk hst hit ha
          go_wp2_with fail
          go_roundw
          case rel => exact ⟨k + 1, by omega, rfl, hit2, hb2, hn⟩
          case measure =>
            simp only [World.iterPos, hit2, Hit.out]
            omega
      · have hfin := hidF (show plainL s.data.toList = false by
          unfold plainL
          cases h : s.data.toList.all okP with
          | false => rfl
          | true =>
            rw [List.all_eq_true] at h
            exact absurd (h s[k] (List.mem_of_getElem? hgk)) hok)
        by_cases ha : s[k].toNat < 128
        · have hr : ¬ ((32 ≤ s[k].toNat ∧ s[k].toNat ≤ 126) ∨ s[k] = 9) := by simpa [okP] using hok
          have hnx : ∀ ty, (Instr.next (.pointer (some ⟨w.heap.size, 0, none⟩)) true ty).run Tryd.prog wr = _ := fun ty => Lib.run_next_ascii_at wr w.heap.size s k ty hit hp ha
          have hb2 := Lib.below_iterAt hb (k := w.heap.size) (Nat.le_refl _) s (k + 1)
          have h9 : s[k] ≠ 9 := fun e => hr (.inr e)
          have q3 : ((s[k].toNat : Int) != 9) = true := bne_iff_ne.2 (fun e => h9 (UInt8.toNat_inj.1 (by have : (9 : UInt8).toNat = 9 := rfl; omega)))
          by_cases hlo : s[k].toNat < 32
          · have q1 : (s[k].toNat : Int) < 32 := by omega
            clear hok hgk hst hit ha hr h9 hlo
            go_wp2_with fail
            go_ret
            exact ⟨by rw [hfin.out]; rfl, hb2⟩
          · have q1 : ¬ (s[k].toNat : Int) < 32 := by omega
            have q2 : (126 : Int) < (s[k].toNat : Int) := by omega
            clear hok hgk hst hit ha hr h9 hlo
            go_wp2_with fail
            go_ret
            exact ⟨by rw [hfin.out]; rfl, hb2⟩
        · have hd := Go.decode_high s k hp (by omega)
          have hnx : ∀ ty, (Instr.next (.pointer (some ⟨w.heap.size, 0, none⟩)) true ty).run Tryd.prog wr = _ := fun ty => Lib.run_next_any_at wr w.heap.size s k ty hit hp
          have hb2 := Lib.below_iterAt hb (k := w.heap.size) (Nat.le_refl _) s (k + (Utf8.decode s k).2)
          obtain ⟨rr, hrr⟩ : ∃ rr : Nat, rr = (Utf8.decode s k).1 := ⟨_, rfl⟩
          obtain ⟨nn, hnn⟩ : ∃ nn : Nat, nn = (Utf8.decode s k).2 := ⟨_, rfl⟩
          rw [← hnn] at hb2
          have hd1 := hd.1
          rw [← hrr] at hd1
          have hnx2 : ∀ ty, (Instr.next (.pointer (some ⟨w.heap.size, 0, none⟩)) true ty).run Tryd.prog wr = .ok (.tuple #[.bool true, .int .i64 k, .int .i32 rr]) (wr.iterAt w.heap.size s (k + nn)) := fun ty => by rw [hnx ty, hrr, hnn]
          have q1 : ¬ (rr : Int) < 32 := by omega
          have q2 : (126 : Int) < (rr : Int) := by omega
          have q3 : ((rr : Int) != 9) = true := bne_iff_ne.2 (by omega)
          clear hd hnx hrr hnn hd1 hok hgk hst hit ha
          go_wp2_with fail
          go_ret
          exact ⟨by rw [hfin.out]; rfl, hb2⟩
    · have hnx : ∀ ty, (Instr.next (.pointer (some ⟨w.heap.size, 0, none⟩)) true ty).run Tryd.prog wr = _ := fun ty => Lib.run_next_end_at wr w.heap.size s k ty hit hp
      have hfin := hidF (show plainL s.data.toList = true by
        have := hst.out
        rw [List.take_of_length_le (by rw [← Hsl.out]; omega)] at this
        exact this)
      clear hst hit
      go_wp2_with fail
      go_ret
      exact ⟨by rw [hfin.out]; rfl, hb⟩

set_option maxHeartbeats 2000000 in
theorem lawPlain_any (s : ByteArray) (w : World) (_hs : s.size ≤ 1000000) :
    Calls Tryd.prog 8 #[.string s] w fun e w' => e = .returned (.bool (plainL s.data.toList)) ∧ w = w' := by
  have Hsl := hidF (size_of_list s)
  go_enter Tryd.func8, Tryd.ntmps8
  go_wp2_with fail
  go_loop [6] (fun iv => ∃ k : Nat, k ≤ s.size ∧ iv = .int .i64 k ∧ Hid ((s.data.toList.take k).all okP = true)) (fun iv => s.size - (intOf iv).toNat)
  case atStart => exact ⟨0, Nat.zero_le _, rfl, hidF rfl⟩
  case round =>
    obtain ⟨k, hk, rfl, hst⟩ := hrel
    by_cases hp : k < s.size
    · have hz : (k : Int) < (s.size : Int) := by omega
      have hgk := get_of s k hp
      by_cases hok : okP s[k] = true
      · have hr : (32 ≤ s[k].toNat ∧ s[k].toNat ≤ 126) ∨ s[k] = 9 := by simpa [okP] using hok
        have hn := hidF (show (s.data.toList.take (k + 1)).all okP = true by
          rw [List.take_add_one, hgk, List.all_append, hst.out]; simp [hok])
        rcases hr with h | h
        · have q1 : ¬ (s[k].toNat : Int) < 32 := by omega
          have q2 : ¬ (126 : Int) < (s[k].toNat : Int) := by omega
          clear h hok hgk hst
          go_wp2_with fail
          go_round
          case rel => exact ⟨k + 1, by omega, by go_num, hn⟩
          case measure => simp [intOf]; omega
        · have q1 : (s[k].toNat : Int) < 32 := by rw [h]; decide
          have q3 : ((s[k].toNat : Int) != 9) = false := by rw [h]; rfl
          clear h hok hgk hst
          go_wp2_with fail
          go_round
          case rel => exact ⟨k + 1, by omega, by go_num, hn⟩
          case measure => simp [intOf]; omega
      · have hfin := hidF (show plainL s.data.toList = false by
          unfold plainL
          cases h : s.data.toList.all okP with
          | false => rfl
          | true =>
            rw [List.all_eq_true] at h
            exact absurd (h s[k] (List.mem_of_getElem? hgk)) hok)
        have hr : ¬ ((32 ≤ s[k].toNat ∧ s[k].toNat ≤ 126) ∨ s[k] = 9) := by simpa [okP] using hok
        have h9 : s[k] ≠ 9 := fun e => hr (.inr e)
        have q3 : ((s[k].toNat : Int) != 9) = true := bne_iff_ne.2 (fun e => h9 (UInt8.toNat_inj.1 (by have : (9 : UInt8).toNat = 9 := rfl; omega)))
        by_cases hlo : s[k].toNat < 32
        · have q1 : (s[k].toNat : Int) < 32 := by omega
          clear hok hgk hst hr h9 hlo
          go_wp2_with fail
          go_ret
          exact ⟨by rw [hfin.out]; rfl, rfl⟩
        · have q1 : ¬ (s[k].toNat : Int) < 32 := by omega
          have q2 : (126 : Int) < (s[k].toNat : Int) := by omega
          clear hok hgk hst hr h9 hlo
          go_wp2_with fail
          go_ret
          exact ⟨by rw [hfin.out]; rfl, rfl⟩
    · have hz : ¬ (k : Int) < (s.size : Int) := by omega
      have hfin := hidF (show plainL s.data.toList = true by
        have := hst.out
        rw [List.take_of_length_le (by rw [← Hsl.out]; omega)] at this
        exact this)
      clear hst
      go_wp2_with fail
      go_ret
      exact ⟨by rw [hfin.out]; rfl, rfl⟩
end Go.Proofs.YtbpoecfbcmdeeaaDoor
