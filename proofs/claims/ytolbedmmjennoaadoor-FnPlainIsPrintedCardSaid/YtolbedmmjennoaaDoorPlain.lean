/- plain: a text of printable signs of ASCII and tabs: the walk. -/
import Derived.Test.YtolbedmmjennoaaDoorBase
namespace Go.Proofs.YtolbedmmjennoaaDoor
open Go.RowKit

/-- A printable sign of ASCII, or a tab. -/
def plainC (c : UInt8) : Bool := !((decide (c.toNat < 32) || decide (126 < c.toNat)) && decide (c.toNat ≠ 9))

def plainL (l : List UInt8) : Bool := l.all plainC

set_option maxHeartbeats 1000000 in
theorem plain_any (s : ByteArray) (w : World) (hs : s.size ≤ 9223372036854775807) :
    Calls Tryd.prog 11 #[.string s] w fun e w' => e = .returned (.bool (plainL s.data.toList)) ∧ w = w' := by
  go_enter Tryd.func11, Tryd.ntmps11
  go_wp2
  go_loop [6] (fun iv => ∃ k : Nat, k ≤ s.size ∧ iv = .int .i64 k ∧ Hid (plainL (s.data.toList.drop k) = plainL s.data.toList)) (fun iv => s.size - (intOf iv).toNat)
  case atStart => exact ⟨0, Nat.zero_le _, rfl, rfl⟩
  case round =>
    obtain ⟨k, hk, rfl, hall⟩ := hrel
    by_cases hlt : k < s.size
    · have hd := hidF (drop_cons s k hlt)
      have hyes : plainC s[k] = true → plainL (s.data.toList.drop (k + 1)) = plainL s.data.toList := fun h => by
        rw [← hall.out, hd.out]; unfold plainL; rw [List.all_cons, h, Bool.true_and]
      have hno : plainC s[k] = false → plainL s.data.toList = false := fun h => by
        rw [← hall.out, hd.out]; unfold plainL; rw [List.all_cons, h, Bool.false_and]
      have Hyes := hidF hyes
      have Hno := hidF hno
      clear hyes hno
      by_cases h9 : s[k].toNat = 9
      · have e1 : (((s[k].toNat : Nat) : Int) != 9) = false := by simp [h9]
        have e2 : (((s[k].toNat : Nat) : Int)) < 32 := by omega
        have hp := hidF (show plainC s[k] = true by simp [plainC, h9])
        clear h9
        go_wp2
        go_round
        case rel => exact ⟨k + 1, by omega, by go_num, Hyes.out hp.out⟩
        case measure => simp [intOf]; omega
      · have e1 : (((s[k].toNat : Nat) : Int) != 9) = true := by rw [bne_iff_ne]; omega
        by_cases h32 : s[k].toNat < 32
        · have e2 : (((s[k].toNat : Nat) : Int)) < 32 := by omega
          have hp := hidF (show plainC s[k] = false by simp [plainC, h9, h32])
          clear h9 h32
          go_wp2
          go_ret
          exact ⟨by rw [Hno.out hp.out]; rfl, rfl⟩
        · have e2 : ¬ (((s[k].toNat : Nat) : Int)) < 32 := by omega
          by_cases h126 : 126 < s[k].toNat
          · have e3 : 126 < (((s[k].toNat : Nat) : Int)) := by omega
            have hp := hidF (show plainC s[k] = false by simp [plainC, h9, h126])
            clear h9 h32 h126
            go_wp2
            go_ret
            exact ⟨by rw [Hno.out hp.out]; rfl, rfl⟩
          · have e3 : ¬ 126 < (((s[k].toNat : Nat) : Int)) := by omega
            have hp := hidF (show plainC s[k] = true by simp [plainC]; omega)
            clear h9 h32 h126
            go_wp2
            go_round
            case rel => exact ⟨k + 1, by omega, by go_num, Hyes.out hp.out⟩
            case measure => simp [intOf]; omega
    · have hdr := drop_end s k hlt
      go_wp2
      go_ret
      refine ⟨?_, rfl⟩
      rw [← hall.out, hdr]
      rfl

end Go.Proofs.YtolbedmmjennoaaDoor
