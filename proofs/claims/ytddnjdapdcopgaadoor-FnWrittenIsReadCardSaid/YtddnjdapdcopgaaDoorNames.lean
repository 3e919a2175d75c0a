/- The walks of the reference's IsName, lower and Canonical. -/
import Derived.Test.YtddnjdapdcopgaaDoorHdrText
import Derived.Test.YtddnjdapdcopgaaDoorRow
namespace Go.Proofs.YtddnjdapdcopgaaDoor
open Go.RowKit


set_option maxHeartbeats 1000000 in
theorem isName_any (s : ByteArray) (w : World) (hs : s.size ≤ 9223372036854775807) :
    Calls Tryd.prog 9 #[.string s] w fun e w' => e = .returned (.bool (isName s.data.toList)) ∧ w = w' := by
  go_enter Tryd.func9, Tryd.ntmps9
  go_wp2
  go_loop [7] (fun iv => ∃ k : Nat, k ≤ s.size ∧ iv = .int .i64 k ∧ Hid ((s.data.toList.drop k).all nameC = s.data.toList.all nameC)) (fun iv => s.size - (intOf iv).toNat)
  case atStart => exact ⟨0, Nat.zero_le _, rfl, rfl⟩
  case round =>
    obtain ⟨k, hk, rfl, hall⟩ := hrel
    by_cases hlt : k < s.size
    · have hd := hidF (drop_cons s k hlt)
      have Hyes := hidF (show nameC s[k] = true → (s.data.toList.drop (k + 1)).all nameC = s.data.toList.all nameC from fun h => by
        rw [← hall.out, hd.out, List.all_cons, h, Bool.true_and])
      have Hno := hidF (show nameC s[k] = false → isName s.data.toList = false from fun h => by
        unfold isName; rw [← hall.out, hd.out, List.all_cons, h, Bool.false_and, Bool.false_and])
      obtain ⟨c, hc⟩ : ∃ c, c = s[k] := ⟨_, rfl⟩
      rw [← hc] at Hyes Hno
      have Hc := hidF hc
      have hcn : (s[k].toNat : Int) = (c.toNat : Int) := by rw [hc]
      clear hc
      by_cases hn : nameC c = true
      · have Hn := hidF hn
        simp only [nameC, Bool.or_eq_true, Bool.and_eq_true, decide_eq_true_eq] at hn
        rcases hn with ((⟨h1, h2⟩ | ⟨h1, h2⟩) | ⟨h1, h2⟩) | h1
        · have f1 : (48 : Int) ≤ (c.toNat : Int) := by omega
          have f2 : (c.toNat : Int) ≤ 57 := by omega
          clear h1 h2
          go_wp2
          go_round
          case rel => exact ⟨k + 1, by omega, by go_num, Hyes.out Hn.out⟩
          case measure => simp [intOf]; omega
        · have f1 : (97 : Int) ≤ (c.toNat : Int) := by omega
          have f2 : (c.toNat : Int) ≤ 122 := by omega
          have f3 : decide ((c.toNat : Int) ≤ 57) = false := decide_eq_false (by omega)
          clear h1 h2
          go_wp2
          go_round
          case rel => exact ⟨k + 1, by omega, by go_num, Hyes.out Hn.out⟩
          case measure => simp [intOf]; omega
        · have f1 : (65 : Int) ≤ (c.toNat : Int) := by omega
          have f2 : (c.toNat : Int) ≤ 90 := by omega
          have f3 : decide ((c.toNat : Int) ≤ 57) = false := decide_eq_false (by omega)
          have f4 : decide ((97 : Int) ≤ (c.toNat : Int)) = false := decide_eq_false (by omega)
          clear h1 h2
          go_wp2
          go_round
          case rel => exact ⟨k + 1, by omega, by go_num, Hyes.out Hn.out⟩
          case measure => simp [intOf]; omega
        · have f1 : ((c.toNat : Int) == 45) = true := by rw [beq_iff_eq]; omega
          have f2 : decide ((48 : Int) ≤ (c.toNat : Int)) = false := decide_eq_false (by omega)
          have f3 : decide ((97 : Int) ≤ (c.toNat : Int)) = false := decide_eq_false (by omega)
          have f4 : decide ((65 : Int) ≤ (c.toNat : Int)) = false := decide_eq_false (by omega)
          clear h1
          go_wp2
          go_round
          case rel => exact ⟨k + 1, by omega, by go_num, Hyes.out Hn.out⟩
          case measure => simp [intOf]; omega
      · have Hn := hidF (show nameC c = false by simpa using hn)
        have f1 : ((c.toNat : Int) == 45) = false := by
          rw [beq_eq_false_iff_ne]; intro e; apply hn; simp [nameC]; omega
        have g1 : ¬ (48 ≤ c.toNat ∧ c.toNat ≤ 57) := fun e => hn (by simp [nameC, e])
        have g2 : ¬ (97 ≤ c.toNat ∧ c.toNat ≤ 122) := fun e => hn (by simp [nameC, e])
        have g3 : ¬ (65 ≤ c.toNat ∧ c.toNat ≤ 90) := fun e => hn (by simp [nameC, e])
        clear hn
        by_cases h48 : 48 ≤ c.toNat
        · have f2 : (48 : Int) ≤ (c.toNat : Int) := by omega
          have f3 : decide ((c.toNat : Int) ≤ 57) = false := decide_eq_false (by omega)
          by_cases h65 : 65 ≤ c.toNat
          · have f4 : (65 : Int) ≤ (c.toNat : Int) := by omega
            have f5 : decide ((c.toNat : Int) ≤ 90) = false := decide_eq_false (by omega)
            by_cases h97 : 97 ≤ c.toNat
            · have f6 : (97 : Int) ≤ (c.toNat : Int) := by omega
              have f7 : decide ((c.toNat : Int) ≤ 122) = false := decide_eq_false (by omega)
              clear g1 g2 g3 h48 h65 h97
              go_wp2
              go_ret
              exact ⟨by rw [Hno.out Hn.out]; rfl, rfl⟩
            · have f6 : decide ((97 : Int) ≤ (c.toNat : Int)) = false := decide_eq_false (by omega)
              clear g1 g2 g3 h48 h65 h97
              go_wp2
              go_ret
              exact ⟨by rw [Hno.out Hn.out]; rfl, rfl⟩
          · have f4 : decide ((65 : Int) ≤ (c.toNat : Int)) = false := decide_eq_false (by omega)
            have f6 : decide ((97 : Int) ≤ (c.toNat : Int)) = false := decide_eq_false (by omega)
            clear g1 g2 g3 h48 h65
            go_wp2
            go_ret
            exact ⟨by rw [Hno.out Hn.out]; rfl, rfl⟩
        · have f2 : decide ((48 : Int) ≤ (c.toNat : Int)) = false := decide_eq_false (by omega)
          have f4 : decide ((65 : Int) ≤ (c.toNat : Int)) = false := decide_eq_false (by omega)
          have f6 : decide ((97 : Int) ≤ (c.toNat : Int)) = false := decide_eq_false (by omega)
          clear g1 g2 g3 h48
          go_wp2
          go_ret
          exact ⟨by rw [Hno.out Hn.out]; rfl, rfl⟩
    · have Hfin := hidF (show isName s.data.toList = decide (0 < s.size) by
        unfold isName
        rw [← hall.out, drop_end s k hlt, List.all_nil, Bool.true_and]
        cases hl : s.data.toList with
        | nil =>
          have : s.size = 0 := by
            have h := congrArg List.length hl
            rw [Array.length_toList] at h
            exact h
          simp [this]
        | cons x r =>
          have : s.size = r.length + 1 := by
            have h := congrArg List.length hl
            rw [Array.length_toList] at h
            exact h
          simp [this])
      go_wp2
      go_ret
      refine ⟨?_, rfl⟩
      rw [Hfin.out]
      rfl

set_option maxHeartbeats 1000000 in
theorem lower_any (s : ByteArray) (w : World) (hs : s.size ≤ 2147483647) :
    Calls Tryd.prog 19 #[.string s] w fun e w' => e = .returned (.string (mkB (lowerL s.data.toList))) ∧ Below w.heap.size w w' := by
  obtain ⟨cap, w1, hconv, hc1, hc2, hrow, hbel, hlt⟩ := bytes_of s w (by unfold maxLen; omega)
  have hlen : (lowerL s.data.toList).length = s.data.toList.length := by simp [lowerL]
  have hsz : s.data.toList.length = s.size := by rw [Array.length_toList]; rfl
  have Hlen := hidF hlen
  have Hsz := hidF hsz
  clear hlen hsz
  go_enter Tryd.func19, Tryd.ntmps19
  go_wp2
  go_loopw [10] (fun iv wr => ∃ k : Nat, k ≤ s.size ∧ iv = .int .i64 k ∧ Row wr w.heap.size (mix (lowerL s.data.toList) s.data.toList k) ∧ Below w.heap.size w wr) (fun iv _ => s.size - (intOf iv).toNat)
  case atStart => exact ⟨0, Nat.zero_le _, rfl, by rw [mix_zero]; exact hrow, hbel⟩
  case round =>
    obtain ⟨k, hk, rfl, hr, hb⟩ := hrel
    by_cases hkl : k < s.size
    · have hget := get_of s k hkl
      have hlow := lowerL_get _ _ _ hget
      have hlen' : (lowerL s.data.toList).length = s.data.toList.length := Hlen.out
      have hkl' : k < s.data.toList.length := by rw [Hsz.out]; exact hkl
      have hat := mix_at (lowerL s.data.toList) s.data.toList k hkl' hlen'
      have hcell := hr.cell (hat.trans hget)
      have hfree := hr.free (hat.trans hget)
      have hset := fun x hx => mix_set (lowerL s.data.toList) s.data.toList k hkl' hlen' x hx
      have hkeep := fun x hx hl => mix_keep (lowerL s.data.toList) s.data.toList k hkl' hlen' x hx hl
      obtain ⟨c, hc⟩ : ∃ c, c = s[k] := ⟨_, rfl⟩
      rw [← hc] at hget hlow hcell
      by_cases hup : 65 ≤ c.toNat ∧ c.toNat ≤ 90
      · have f1 : (65 : Int) ≤ (c.toNat : Int) := by omega
        have f2 : (c.toNat : Int) ≤ 90 := by omega
        have hnext := Row.set hr k (lowC c)
        rw [hset _ hlow] at hnext
        have e1 : ((lowC c).toNat : Int) = (c.toNat : Int) + 32 := by
          have := toNat_add32 c hup.2
          unfold lowC; rw [if_pos hup]; omega
        rw [e1] at hnext
        have Hnext := hidF hnext
        clear hnext e1 hset hkeep hlow hget hat hup hc hlen' hkl'
        go_wp2
        go_roundw
        case rel => exact ⟨k + 1, by omega, by go_num, Hnext.out, hb.setCell (p := ⟨w.heap.size, k, none⟩) (Nat.le_refl _) _⟩
        case measure => simp [intOf]; omega
      · have hk2 : lowC c = c := by unfold lowC; rw [if_neg hup]
        rw [hk2] at hlow
        have hsame := hkeep _ hlow hget
        rw [← hsame] at hr
        clear hset hkeep hlow hget hat hc hlen' hkl' hk2 hsame
        by_cases h65 : 65 ≤ c.toNat
        · have f1 : (65 : Int) ≤ (c.toNat : Int) := by omega
          have f2 : decide ((c.toNat : Int) ≤ 90) = false := decide_eq_false (by omega)
          clear hup h65
          go_wp2
          go_roundw
          case rel => exact ⟨k + 1, by omega, by go_num, hr, hb⟩
          case measure => simp [intOf]; omega
        · have f1 : decide ((65 : Int) ≤ (c.toNat : Int)) = false := decide_eq_false (by omega)
          clear hup h65
          go_wp2
          go_roundw
          case rel => exact ⟨k + 1, by omega, by go_num, hr, hb⟩
          case measure => simp [intOf]; omega
    · obtain rfl : k = s.size := by omega
      rw [mix_all _ _ _ (by rw [Hlen.out, Hsz.out]) Hsz.out] at hr
      have hback := hr.back cap
      rw [show (lowerL s.data.toList).length = s.size by rw [Hlen.out, Hsz.out]] at hback
      go_wp2
      go_ret
      exact ⟨rfl, hb⟩


set_option maxHeartbeats 1000000 in
set_option maxRecDepth 100000 in
theorem specCanonical_any (s : ByteArray) (w : World) (hs : s.size ≤ 2147483647) :
    Calls Tryd.prog 14 #[.string s] w fun e w' => e = .returned (.string (mkB (canon s.data.toList))) ∧ Below w.heap.size w w' := by
  have hcan := hidF (show canF true (lowerL s.data.toList) = canon s.data.toList from canF_lower _ _)
  go_enter Tryd.func14, Tryd.ntmps14
  go_wp2_with fail
  refine (lower_any s w hs).mono ?_
  rintro e w0 ⟨rfl, hb0⟩
  obtain ⟨t, ht⟩ : ∃ t, t = mkB (lowerL s.data.toList) := ⟨_, rfl⟩
  rw [← ht]
  have htl : t.data.toList = lowerL s.data.toList := by rw [ht, mkB_list]
  have hts : t.size = s.size := by rw [ht, size_mkB]; simp [lowerL]
  rw [← htl] at hcan
  have Htl := hidF htl
  have Hts := hidF hts
  have hsmall : t.size ≤ 2147483647 := by omega
  clear htl hts ht
  obtain ⟨cap, w1, hconv, hc1, hc2, hrow, hbel, hlt⟩ := bytes_of t w0 (by unfold maxLen; omega)
  have Hlen := hidF (canF_length t.data.toList true)
  have Hsz := hidF (show t.data.toList.length = t.size by rw [Array.length_toList]; rfl)
  have hw0 := hb0.size
  go_wp2
  go_loopw [11] (fun iv wr => ∃ k : Nat, k ≤ t.size ∧ iv = .int .i64 k ∧ Row wr w0.heap.size (mix (canF true t.data.toList) t.data.toList k) ∧ Below w0.heap.size w0 wr) (fun iv _ => t.size - (intOf iv).toNat)
  case atStart => exact ⟨0, Nat.zero_le _, rfl, by rw [mix_zero]; exact hrow, hbel⟩
  case round =>
    obtain ⟨k, hk, rfl, hr, hb⟩ := hrel
    by_cases hkl : k < t.size
    · have hget := get_of t k hkl
      have hcg := canF_get _ true _ _ hget
      have hlen' : (canF true t.data.toList).length = t.data.toList.length := Hlen.out
      have hkl' : k < t.data.toList.length := by rw [Hsz.out]; exact hkl
      have hat := mix_at (canF true t.data.toList) t.data.toList k hkl' hlen'
      have hcell := hr.cell (hat.trans hget)
      have hfree := hr.free (hat.trans hget)
      have hset := fun x hx => mix_set (canF true t.data.toList) t.data.toList k hkl' hlen' x hx
      have hkeep := fun x hx hl => mix_keep (canF true t.data.toList) t.data.toList k hkl' hlen' x hx hl
      have hbef := fun h0 => mix_before (canF true t.data.toList) t.data.toList k hkl' hlen' h0
      have hng : ¬ (65 ≤ t[k].toNat ∧ t[k].toNat ≤ 90) := lower_not_great s.data.toList k t[k] (by rw [← Htl.out]; exact hget)
      obtain ⟨c, hc⟩ : ∃ c, c = t[k] := ⟨_, rfl⟩
      rw [← hc] at hget hcg hcell hng
      -- the flag, as the text asks it
      have hflag : (∃ fl, flagAt true (canF true t.data.toList) k = fl) := ⟨_, rfl⟩
      obtain ⟨fl, hfl⟩ := hflag
      rw [hfl] at hcg
      have hone : canC fl c = if fl = true ∧ 97 ≤ c.toNat ∧ c.toNat ≤ 122 then c - 32 else c := by
        unfold canC
        split
        · rfl
        · rw [if_neg (fun h => hng h.2)]
      have hprev : (0 < k → ∃ p, wr.cell? ⟨w0.heap.size, k - 1, none⟩ = some (.int .u8 (p : Int)) ∧ ((p : Int) == 45) = fl) := fun h0 => by
        have hb1 := hbef h0
        have hx : k - 1 < (canF true t.data.toList).length := by omega
        have hx2 := List.getElem?_eq_getElem hx
        rw [hx2] at hb1
        refine ⟨_, hr.cell hb1, ?_⟩
        rw [← hfl]
        unfold flagAt
        rw [if_neg (by omega), hx2]
        rw [Bool.eq_iff_iff]
        simp only [beq_iff_eq, Option.some.injEq]
        constructor
        · intro h; apply UInt8.toNat_inj.1; have : (45 : UInt8).toNat = 45 := rfl; omega
        · intro h; rw [h]; rfl
      have hzero : k = 0 → fl = true := fun h0 => by rw [← hfl, h0]; rfl
      have Hprev := hidF hprev
      have Hzero := hidF hzero
      have Hr := hidF hr
      have hgo : ∃ (wn : World), Row wn w0.heap.size (mix (canF true t.data.toList) t.data.toList (k + 1)) ∧ Below w0.heap.size w0 wn ∧ ((fl = true ∧ 97 ≤ c.toNat ∧ c.toNat ≤ 122 ∧ wn = wr.setCell ⟨w0.heap.size, k, none⟩ (.int .u8 ((c.toNat : Int) - 32))) ∨ (¬ (fl = true ∧ 97 ≤ c.toNat ∧ c.toNat ≤ 122) ∧ wn = wr)) := by
        by_cases hup : fl = true ∧ 97 ≤ c.toNat ∧ c.toNat ≤ 122
        · rw [hone, if_pos hup] at hcg
          have hnext := Row.set hr k (c - 32)
          rw [hset _ hcg] at hnext
          have e1 : ((c - 32).toNat : Int) = (c.toNat : Int) - 32 := by have := toNat_sub32 c hup.2.1; omega
          rw [e1] at hnext
          exact ⟨_, hnext, hb.setCell (p := ⟨w0.heap.size, k, none⟩) (Nat.le_refl _) _, .inl ⟨hup.1, hup.2.1, hup.2.2, rfl⟩⟩
        · rw [hone, if_neg hup] at hcg
          have hsame := hkeep _ hcg hget
          rw [← hsame] at hr
          exact ⟨wr, hr, hb, .inr ⟨hup, rfl⟩⟩
      obtain ⟨wn, hrn, hbn, hways⟩ := hgo
      clear hget hcg hat hset hkeep hbef hc hng hfl hone hprev hzero hr hlen' hkl'
      by_cases hk0 : k = 0
      · have hfl1 := Hzero.out hk0
        subst hfl1
        have e0 : ((k : Int) == 0) = true := by rw [beq_iff_eq]; omega
        have e00 := hidF hk0
        clear hk0
        rcases hways with ⟨_, h1, h2, rfl⟩ | ⟨h1, rfl⟩
        · have f1 : (97 : Int) ≤ (c.toNat : Int) := by omega
          have f2 : (c.toNat : Int) ≤ 122 := by omega
          clear h1 h2
          go_wp2
          go_roundw
          case rel => exact ⟨k + 1, by omega, by go_num, hrn, hbn⟩
          case measure => simp [intOf]; omega
        · by_cases h97 : 97 ≤ c.toNat
          · have f1 : (97 : Int) ≤ (c.toNat : Int) := by omega
            have f2 : decide ((c.toNat : Int) ≤ 122) = false := decide_eq_false (fun h => h1 ⟨rfl, h97, by omega⟩)
            clear h1 h97
            go_wp2
            go_roundw
            case rel => exact ⟨k + 1, by omega, by go_num, hrn, hbn⟩
            case measure => simp [intOf]; omega
          · have f1 : decide ((97 : Int) ≤ (c.toNat : Int)) = false := decide_eq_false (by omega)
            clear h1 h97
            go_wp2
            go_roundw
            case rel => exact ⟨k + 1, by omega, by go_num, hrn, hbn⟩
            case measure => simp [intOf]; omega
      · have e0 : ((k : Int) == 0) = false := by rw [beq_eq_false_iff_ne]; omega
        obtain ⟨p, hpc, hpf⟩ := Hprev.out (by omega)
        have k1 : (0 : Int) ≤ (k : Int) - 1 := by omega
        have k2 : (k : Int) - 1 < (t.size : Int) := by omega
        have k3 : ((k : Int) - 1).toNat = k - 1 := by omega
        have k4 := hidF hk0
        clear hk0
        cases fl with
        | true =>
          rcases hways with ⟨_, h1, h2, rfl⟩ | ⟨h1, rfl⟩
          · have f1 : (97 : Int) ≤ (c.toNat : Int) := by omega
            have f2 : (c.toNat : Int) ≤ 122 := by omega
            clear h1 h2
            go_wp2
            go_roundw
            case rel => exact ⟨k + 1, by omega, by go_num, hrn, hbn⟩
            case measure => simp [intOf]; omega
          · by_cases h97 : 97 ≤ c.toNat
            · have f1 : (97 : Int) ≤ (c.toNat : Int) := by omega
              have f2 : decide ((c.toNat : Int) ≤ 122) = false := decide_eq_false (fun h => h1 ⟨rfl, h97, by omega⟩)
              clear h1 h97
              go_wp2
              go_roundw
              case rel => exact ⟨k + 1, by omega, by go_num, hrn, hbn⟩
              case measure => simp [intOf]; omega
            · have f1 : decide ((97 : Int) ≤ (c.toNat : Int)) = false := decide_eq_false (by omega)
              clear h1 h97
              go_wp2
              go_roundw
              case rel => exact ⟨k + 1, by omega, by go_num, hrn, hbn⟩
              case measure => simp [intOf]; omega
        | false =>
          rcases hways with ⟨h0, _⟩ | ⟨h1, rfl⟩
          · exact absurd h0 (by decide)
          · clear h1
            go_wp2
            go_roundw
            case rel => exact ⟨k + 1, by omega, by go_num, hrn, hbn⟩
            case measure => simp [intOf]; omega
    · obtain rfl : k = t.size := by omega
      rw [mix_all _ _ _ (by rw [Hlen.out, Hsz.out]) Hsz.out] at hr
      have hback := hr.back cap
      rw [show (canF true t.data.toList).length = t.size by rw [Hlen.out, Hsz.out], hcan.out] at hback
      go_wp2
      go_ret
      exact ⟨rfl, hb0.trans (hb.mono hw0)⟩

end Go.Proofs.YtddnjdapdcopgaaDoor
