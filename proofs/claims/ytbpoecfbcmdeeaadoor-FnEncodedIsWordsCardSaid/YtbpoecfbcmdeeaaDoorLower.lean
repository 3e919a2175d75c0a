/- The walk of the reference's lower. -/
import Derived.Test.YtbpoecfbcmdeeaaDoorHdrText
import Derived.Test.YtbpoecfbcmdeeaaDoorRow
namespace Go.Proofs.YtbpoecfbcmdeeaaDoor
open Go.RowKit

set_option maxHeartbeats 1000000 in
theorem lower_any (s : ByteArray) (w : World) (hs : s.size ≤ 2147483647) :
    Calls Tryd.prog 18 #[.string s] w fun e w' => e = .returned (.string (mkB (lowerL s.data.toList))) ∧ Below w.heap.size w w' := by
  obtain ⟨cap, w1, hconv, hc1, hc2, hrow, hbel, hlt⟩ := bytes_of s w (by unfold maxLen; omega)
  have hlen : (lowerL s.data.toList).length = s.data.toList.length := by simp [lowerL]
  have hsz : s.data.toList.length = s.size := by rw [Array.length_toList]; rfl
  have Hlen := hidF hlen
  have Hsz := hidF hsz
  clear hlen hsz
  go_enter Tryd.func18, Tryd.ntmps18
  go_wp2
  go_loopw [10] (fun iv wr => ∃ k : Nat, k ≤ s.size ∧ iv = .int .i64 k ∧ Row wr w.heap.size (mix (lowerL s.data.toList) s.data.toList k) ∧ Below w.heap.size w wr) (fun iv _ => s.size - (intOf iv).toNat)
  case atStart => exact ⟨0, Nat.zero_le _, rfl, by rw [mix_zero]; exact hrow, hbel⟩
  case round =>
    obtain ⟨k, hk, rfl, hr, hb⟩ := hrel
    by_cases hkl : k < s.size
    · have hget := get_of s k hkl
      have hlow := lowerL_get _ _ _ hget
      have hlen' : (lowerL s.data.toList).length = s.data.toList.length := Hlen.out
      have hkl' : k < s.data.toList.length := by rw [Hsz.out]; exact hkl
      have hat := mix_at (lowerL s.data.toList) s.data.toList k hkl' hlen'
      have hcell := hr.cell (hat.trans hget)
      have hfree := hr.free (hat.trans hget)
      have hset := fun x hx => mix_set (lowerL s.data.toList) s.data.toList k hkl' hlen' x hx
      have hkeep := fun x hx hl => mix_keep (lowerL s.data.toList) s.data.toList k hkl' hlen' x hx hl
      obtain ⟨c, hc⟩ : ∃ c, c = s[k] := ⟨_, rfl⟩
      rw [← hc] at hget hlow hcell
      by_cases hup : 65 ≤ c.toNat ∧ c.toNat ≤ 90
      · have f1 : (65 : Int) ≤ (c.toNat : Int) := by omega
        have f2 : (c.toNat : Int) ≤ 90 := by omega
        have hnext := Row.set hr k (lowC c)
        rw [hset _ hlow] at hnext
        have e1 : ((lowC c).toNat : Int) = (c.toNat : Int) + 32 := by
          have := toNat_add32 c hup.2
          unfold lowC; rw [if_pos hup]; omega
        rw [e1] at hnext
        have Hnext := hidF hnext
        clear hnext e1 hset hkeep hlow hget hat hup hc hlen' hkl'
        go_wp2
        go_roundw
        case rel => exact ⟨k + 1, by omega, by go_num, Hnext.out, hb.setCell (p := ⟨w.heap.size, k, none⟩) (Nat.le_refl _) _⟩
        case measure => simp [intOf]; omega
      · have hk2 : lowC c = c := by unfold lowC; rw [if_neg hup]
        rw [hk2] at hlow
        have hsame := hkeep _ hlow hget
        rw [← hsame] at hr
        clear hset hkeep hlow hget hat hc hlen' hkl' hk2 hsame
        by_cases h65 : 65 ≤ c.toNat
        · have f1 : (65 : Int) ≤ (c.toNat : Int) := by omega
          have f2 : decide ((c.toNat : Int) ≤ 90) = false := decide_eq_false (by omega)
          clear hup h65
          go_wp2
          go_roundw
          case rel => exact ⟨k + 1, by omega, by go_num, hr, hb⟩
          case measure => simp [intOf]; omega
        · have f1 : decide ((65 : Int) ≤ (c.toNat : Int)) = false := decide_eq_false (by omega)
          clear hup h65
          go_wp2
          go_roundw
          case rel => exact ⟨k + 1, by omega, by go_num, hr, hb⟩
          case measure => simp [intOf]; omega
    · obtain rfl : k = s.size := by omega
      rw [mix_all _ _ _ (by rw [Hlen.out, Hsz.out]) Hsz.out] at hr
      have hback := hr.back cap
      rw [show (lowerL s.data.toList).length = s.size by rw [Hlen.out, Hsz.out]] at hback
      go_wp2
      go_ret
      exact ⟨rfl, hb⟩

end Go.Proofs.YtbpoecfbcmdeeaaDoor
