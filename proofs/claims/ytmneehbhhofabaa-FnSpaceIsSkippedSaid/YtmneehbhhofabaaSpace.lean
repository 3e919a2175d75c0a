/- The reference's Skip, 'plain', and the thin package's SkipSpace: walks. -/
import Derived.Test.YtmneehbhhofabaaSkip
namespace Go.Proofs.Ytmneehbhhofabaa
open Go.RowKit

/-- A printable sign of ASCII, or a tab. -/
def plainC (c : UInt8) : Bool := !((decide (c.toNat < 32) || decide (126 < c.toNat)) && decide (c.toNat ≠ 9))

def plainL (l : List UInt8) : Bool := l.all plainC

set_option maxHeartbeats 1000000 in
theorem plain_any (s : ByteArray) (w : World) (hs : s.size ≤ 9223372036854775807) :
    Calls Try.prog 5 #[.string s] w fun e w' => e = .returned (.bool (plainL s.data.toList)) ∧ w = w' := by
  go_enter Try.func5, Try.ntmps5
  go_wp2
  go_loop [6] (fun iv => ∃ k : Nat, k ≤ s.size ∧ iv = .int .i64 k ∧ Hid (plainL (s.data.toList.drop k) = plainL s.data.toList)) (fun iv => s.size - (intOf iv).toNat)
  case atStart => exact ⟨0, Nat.zero_le _, rfl, rfl⟩
  case round =>
    obtain ⟨k, hk, rfl, hall⟩ := hrel
    by_cases hlt : k < s.size
    · have hd := hidF (drop_cons s k hlt)
      have hyes : plainC s[k] = true → plainL (s.data.toList.drop (k + 1)) = plainL s.data.toList := fun h => by
        rw [← hall.out, hd.out]; unfold plainL; rw [List.all_cons, h, Bool.true_and]
      have hno : plainC s[k] = false → plainL s.data.toList = false := fun h => by
        rw [← hall.out, hd.out]; unfold plainL; rw [List.all_cons, h, Bool.false_and]
      have Hyes := hidF hyes
      have Hno := hidF hno
      clear hyes hno
      by_cases h9 : s[k].toNat = 9
      · have e1 : (((s[k].toNat : Nat) : Int) != 9) = false := by simp [h9]
        have e2 : (((s[k].toNat : Nat) : Int)) < 32 := by omega
        have hp := hidF (show plainC s[k] = true by simp [plainC, h9])
        clear h9
        go_wp2
        go_round
        case rel => exact ⟨k + 1, by omega, by go_num, Hyes.out hp.out⟩
        case measure => simp [intOf]; omega
      · have e1 : (((s[k].toNat : Nat) : Int) != 9) = true := by rw [bne_iff_ne]; omega
        by_cases h32 : s[k].toNat < 32
        · have e2 : (((s[k].toNat : Nat) : Int)) < 32 := by omega
          have hp := hidF (show plainC s[k] = false by simp [plainC, h9, h32])
          clear h9 h32
          go_wp2
          go_ret
          exact ⟨by rw [Hno.out hp.out]; rfl, rfl⟩
        · have e2 : ¬ (((s[k].toNat : Nat) : Int)) < 32 := by omega
          by_cases h126 : 126 < s[k].toNat
          · have e3 : 126 < (((s[k].toNat : Nat) : Int)) := by omega
            have hp := hidF (show plainC s[k] = false by simp [plainC, h9, h126])
            clear h9 h32 h126
            go_wp2
            go_ret
            exact ⟨by rw [Hno.out hp.out]; rfl, rfl⟩
          · have e3 : ¬ 126 < (((s[k].toNat : Nat) : Int)) := by omega
            have hp := hidF (show plainC s[k] = true by simp [plainC]; omega)
            clear h9 h32 h126
            go_wp2
            go_round
            case rel => exact ⟨k + 1, by omega, by go_num, Hyes.out hp.out⟩
            case measure => simp [intOf]; omega
    · have hdr := drop_end s k hlt
      go_wp2
      go_ret
      refine ⟨?_, rfl⟩
      rw [← hall.out, hdr]
      rfl

theorem u8_of_nat (c : UInt8) (n : Nat) (h : c.toNat = n) : c = UInt8.ofNat n := by
  rw [← h, UInt8.ofNat_toNat]

set_option maxHeartbeats 1000000 in
set_option maxRecDepth 100000 in
theorem specSkip_any (s : ByteArray) (w : World) (hs : s.size ≤ 1000000000) :
    Calls Try.prog 6 #[.string s] w fun e w' => e = .returned (.tuple #[.string (mkB (skipF s.data.toList 0 false).1), .bool (skipF s.data.toList 0 false).2]) ∧ w = w' := by
  go_enter Try.func6, Try.ntmps6
  go_wp2
  go_loop [4, 5] (fun dv iv => ∃ d i : Nat, dv = .int .i64 d ∧ iv = .int .i64 i ∧ i ≤ s.size ∧ d ≤ i ∧ Hid (skipF (s.data.toList.drop i) d false = skipF s.data.toList 0 false)) (fun _ iv => s.size - (intOf iv).toNat)
  case atStart => exact ⟨0, 0, rfl, rfl, Nat.zero_le _, Nat.le_refl _, rfl⟩
  case round =>
    obtain ⟨d, i, rfl, rfl, hi, hdi, hsk⟩ := hrel
    by_cases hlt : i < s.size
    · have hd := hidF (drop_cons s i hlt)
      by_cases h40 : s[i].toNat = 40
      · have e1 : (((s[i].toNat : Nat) : Int) == 40) = true := by simp [h40]
        have hstep := hidF (show skipF (s.data.toList.drop (i + 1)) (d + 1) false = skipF s.data.toList 0 false by
          rw [← hsk.out, hd.out, u8_of_nat _ _ h40]; simp [skipF])
        clear h40
        go_wp2
        go_round
        case rel => exact ⟨d + 1, i + 1, by go_num, by go_num, by omega, by omega, hstep.out⟩
        case measure => simp [intOf]; omega
      · have e1 : (((s[i].toNat : Nat) : Int) == 40) = false := by rw [beq_eq_false_iff_ne]; omega
        have n40 : s[i] ≠ 40 := fun e => h40 (by rw [e]; rfl)
        by_cases hd0 : 0 < d
        · have f0 : (0 : Int) < (d : Int) := by omega
          by_cases h41 : s[i].toNat = 41
          · have e2 : (((s[i].toNat : Nat) : Int) == 41) = true := by simp [h41]
            have hstep := hidF (show skipF (s.data.toList.drop (i + 1)) (d - 1) false = skipF s.data.toList 0 false by
              rw [← hsk.out, hd.out, u8_of_nat _ _ h41]; simp [skipF, hd0])
            clear h41 h40 n40
            go_wp2
            go_round
            case rel => exact ⟨d - 1, i + 1, by go_num, by go_num, by omega, by omega, hstep.out⟩
            case measure => simp [intOf]; omega
          · have e2 : (((s[i].toNat : Nat) : Int) == 41) = false := by rw [beq_eq_false_iff_ne]; omega
            have n41 : s[i] ≠ 41 := fun e => h41 (by rw [e]; rfl)
            by_cases h92 : s[i].toNat = 92
            · have e3 : (((s[i].toNat : Nat) : Int) == 92) = true := by simp [h92]
              have h92u := hidF (u8_of_nat _ _ h92)
              by_cases hend : i + 1 = s.size
              · have e4 : (((i : Int) + 1) == (s.size : Int)) = true := by rw [beq_iff_eq]; omega
                have hstep := hidF (show skipF s.data.toList 0 false = ([], false) by
                  rw [← hsk.out, hd.out, h92u.out, drop_end s (i + 1) (by omega)]; simp [skipF, hd0]; omega)
                clear h41 h40 n40 n41 h92 hend
                go_wp2
                go_ret2
                rw [hstep.out]
                exact ⟨rfl, rfl⟩
              · have e4 : (((i : Int) + 1) == (s.size : Int)) = false := by rw [beq_eq_false_iff_ne]; omega
                have hlt2 : i + 1 < s.size := by omega
                have hstep := hidF (show skipF (s.data.toList.drop (i + 1 + 1)) d false = skipF s.data.toList 0 false by
                  rw [← hsk.out, hd.out, h92u.out, drop_cons s (i + 1) hlt2]; simp [skipF, hd0])
                clear h41 h40 n40 n41 h92 hend
                go_wp2
                go_round
                case rel => exact ⟨d, i + 1 + 1, by go_num, by go_num, by omega, by omega, hstep.out⟩
                case measure => simp [intOf]; omega
            · have e3 : (((s[i].toNat : Nat) : Int) == 92) = false := by rw [beq_eq_false_iff_ne]; omega
              have n92 : s[i] ≠ 92 := fun e => h92 (by rw [e]; rfl)
              have e5 : ((d : Int) == 0) = false := by rw [beq_eq_false_iff_ne]; omega
              have hstep := hidF (show skipF (s.data.toList.drop (i + 1)) d false = skipF s.data.toList 0 false by
                rw [← hsk.out, hd.out]; simp [skipF, n40, n41, n92, show d ≠ 0 by omega])
              clear h41 h40 n40 n41 h92 n92
              go_wp2
              go_round
              case rel => exact ⟨d, i + 1, by go_num, by go_num, by omega, by omega, hstep.out⟩
              case measure => simp [intOf]; omega
        · obtain rfl : d = 0 := by omega
          by_cases hws : s[i].toNat = 32 ∨ s[i].toNat = 9
          · have hstep := hidF (show skipF (s.data.toList.drop (i + 1)) 0 false = skipF s.data.toList 0 false by
              rw [← hsk.out, hd.out]
              rcases hws with h | h
              · rw [u8_of_nat _ _ h]; simp [skipF]
              · rw [u8_of_nat _ _ h]; simp [skipF])
            rcases hws with h | h
            · have e2 : (((s[i].toNat : Nat) : Int) != 32) = false := by simp [h]
              clear h h40 n40
              go_wp2
              go_round
              case rel => exact ⟨0, i + 1, by go_num, by go_num, by omega, by omega, hstep.out⟩
              case measure => simp [intOf]; omega
            · have e2 : (((s[i].toNat : Nat) : Int) != 32) = true := by simp [h]
              have e3 : (((s[i].toNat : Nat) : Int) != 9) = false := by simp [h]
              clear h h40 n40
              go_wp2
              go_round
              case rel => exact ⟨0, i + 1, by go_num, by go_num, by omega, by omega, hstep.out⟩
              case measure => simp [intOf]; omega
          · have e2 : (((s[i].toNat : Nat) : Int) != 32) = true := by rw [bne_iff_ne]; omega
            have e3 : (((s[i].toNat : Nat) : Int) != 9) = true := by rw [bne_iff_ne]; omega
            have hfin := hidF (show skipF s.data.toList 0 false = (s.data.toList.drop i, true) by
              rw [← hsk.out, hd.out]
              exact skip_stop _ _ n40 (by
                unfold isWs
                rw [Bool.or_eq_false_iff]
                constructor <;> (rw [beq_eq_false_iff_ne]; intro e; apply hws; rw [e])
                · left; rfl
                · right; rfl))
            have hx := from_mkB s i
            clear h40 n40 hws
            go_wp2
            go_ret2
            rw [hfin.out]
            exact ⟨rfl, rfl⟩
    · have hfin := hidF (show skipF s.data.toList 0 false = ([], d == 0) by
        rw [← hsk.out, drop_end s i hlt]; rfl)
      go_wp2
      go_ret2
      refine ⟨?_, rfl⟩
      rw [hfin.out, ← beq_cast d]
      rfl

set_option maxHeartbeats 1000000 in
theorem mailSkipSpace_any (s : ByteArray) (w : World) (hs : s.size ≤ 1000000000) :
    Calls Try.prog 7 #[.string s] w fun e w' =>
      ∃ t : ByteArray, e = .returned (.tuple #[.string t, .bool (skipF s.data.toList 0 false).2]) ∧ ((skipF s.data.toList 0 false).2 = true → t = mkB (skipF s.data.toList 0 false).1) ∧ Below w.heap.size w w' := by
  go_enter Try.func7, Try.ntmps7
  go_wp2_with ((go_at_call 12; go_in))
  refine (skipCFWS_any w.heap.size s _ (PAt.made w s) hs).mono ?_
  rintro e W1 ⟨t, rfl, hP1, ht, hg⟩
  have hc1 := hP1.cell
  have hb : Below w.heap.size w W1 := ((Below.refl _ w).alloc (Nat.le_refl _) _).trans (below_grown hg (Nat.le_refl _) (by simp))
  have Ht := hidF ht
  clear ht
  go_wp2
  go_ret2
  refine ⟨t, rfl, fun h => ?_, hb⟩
  rw [← Ht.out h, list_mkB]

end Go.Proofs.Ytmneehbhhofabaa
