/- gomime's hasNonWhitespace at a text of printable signs: the walk. -/
import Derived.Test.YtbpoecfbcmdeeaaDoorHeadL
import Derived.Lib.OthersKept
import Derived.Outline
namespace Go.Proofs.YtbpoecfbcmdeeaaDoor
open Go.RowKit

theorem below_drewN' {B : Nat} {w w' : World} (h : Below B w w') (n : Nat) : Below B w (w'.drewN n) := h.trans ⟨rfl, rfl, rfl, Nat.le_refl _, fun _ _ => rfl⟩

set_option maxHeartbeats 2000000 in
set_option maxRecDepth 100000 in
theorem nonWs_any (s : ByteArray) (w : World) (_hs : s.size ≤ 1000000) (hok : ∀ c ∈ s.data.toList, 32 ≤ c.toNat ∧ c.toNat ≤ 126) :
    Calls Tryd.prog 35 #[.string s] w fun e w' => e = .returned (.bool (!s.data.toList.all isSp)) ∧ Below w.heap.size w w' := by
  have Hsl := hidF (size_of_list s)
  have Hok := hidF hok
  clear hok
  go_enter Tryd.func35, Tryd.ntmps35
  go_wp2_with fail
  go_loopw [2] (fun rv wr => ∃ k : Nat, k ≤ s.size ∧ rv = .bool false ∧ wr.heap[w.heap.size]? = some (.stringIter s k) ∧ Below w.heap.size w wr ∧ Hid ((s.data.toList.take k).all isSp = true)) (fun _ wr => s.size - wr.iterPos w.heap.size)
  case atStart => exact ⟨0, Nat.zero_le _, rfl, World.iter_heap w s 0, (Below.refl w.heap.size w).alloc (Nat.le_refl _) _, hidF rfl⟩
  case round =>
    obtain ⟨k, hk, rfl, hit, hb, hst⟩ := hrel
    by_cases hp : k < s.size
    · have hgk := get_of s k hp
      have hr := Hok.out s[k] (List.mem_of_getElem? hgk)
      have hnx : ∀ ty, (Instr.next (.pointer (some ⟨w.heap.size, 0, none⟩)) true ty).run Tryd.prog wr = _ := fun ty => Lib.run_next_ascii_at wr w.heap.size s k ty hit hp (by omega)
      have hit2 := Lib.iterAt_heap wr w.heap.size s k (k + 1) hit
      have hb2 := Lib.below_iterAt hb (k := w.heap.size) (Nat.le_refl _) s (k + 1)
      have Hit := hidF hit
      by_cases h32 : s[k] = 32
      · have q0 : ((s[k].toNat : Int) == 32) = true := by rw [h32]; rfl
        have hn := hidF (show (s.data.toList.take (k + 1)).all isSp = true by
          rw [List.take_add_one, hgk, List.all_append, hst.out, h32]; rfl)
        clear h32 hgk hr hst hit
        go_wp2_with fail
        go_roundw
        case rel => exact ⟨k + 1, by omega, rfl, hit2, hb2, hn⟩
        case measure =>
          simp only [World.iterPos, hit2, Hit.out]
          omega
      · have q0 : ((s[k].toNat : Int) == 32) = false := beq_eq_false_iff_ne.2 (fun e => h32 (UInt8.toNat_inj.1 (by have : (32 : UInt8).toNat = 32 := rfl; omega)))
        have q1 : ((s[k].toNat : Int) == 9) = false := beq_eq_false_iff_ne.2 (by omega)
        have q2 : ((s[k].toNat : Int) == 10) = false := beq_eq_false_iff_ne.2 (by omega)
        have q3 : ((s[k].toNat : Int) == 13) = false := beq_eq_false_iff_ne.2 (by omega)
        have hfin := hidF (show s.data.toList.all isSp = false by
          cases h : s.data.toList.all isSp with
          | false => rfl
          | true =>
            rw [List.all_eq_true] at h
            have := h s[k] (List.mem_of_getElem? hgk)
            exact absurd (by simpa [isSp] using this) h32)
        clear h32 hgk hr hst hit
        go_wp2_with fail
        go_ret
        exact ⟨by rw [hfin.out]; rfl, hb2⟩
    · have hnx : ∀ ty, (Instr.next (.pointer (some ⟨w.heap.size, 0, none⟩)) true ty).run Tryd.prog wr = _ := fun ty => Lib.run_next_end_at wr w.heap.size s k ty hit hp
      have hfin := hidF (show s.data.toList.all isSp = true by
        have := hst.out
        rw [List.take_of_length_le (by rw [← Hsl.out]; omega)] at this
        exact this)
      clear hst hit
      go_wp2_with fail
      go_ret
      exact ⟨by rw [hfin.out]; rfl, hb⟩
end Go.Proofs.YtbpoecfbcmdeeaaDoor
