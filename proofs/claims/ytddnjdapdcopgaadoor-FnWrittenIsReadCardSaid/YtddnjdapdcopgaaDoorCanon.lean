/- net/textproto's canonical name of a field is the reference's, for names of letters, digits and hyphens: the walks. -/
import Derived.Test.YtddnjdapdcopgaaDoorNames
import Derived.Test.YtddnjdapdcopgaaDoorValid
namespace Go.Proofs.YtddnjdapdcopgaaDoor
open Go.RowKit

set_option maxHeartbeats 1000000 in
set_option maxRecDepth 100000 in
theorem canonInner_name (l : List UInt8) (B n cap : Nat) (w : World) (hr0 : Row w B l) (hB : B < w.heap.size) (hn : l.length = n) (h0 : 0 < n) (hs : n ≤ 2147483647) (hcap : n ≤ cap) (hcap2 : cap ≤ 9223372036854775807) (hnm : l.all nameC = true) :
    Calls Tryd.prog 39 #[.slice (some ⟨B, 0, none⟩) n cap] w fun e w' => e = .returned (.tuple #[.string (mkB (canon l)), .bool true]) ∧ Below B w w' := by
  have Hn := hidF hn
  have Hnm := hidF (List.all_eq_true.1 hnm)
  have Hlen := hidF (canF_length l true)
  clear hn hnm
  have e0 : ((n : Int) == 0) = false := beq_eq_false_iff_ne.2 (by omega)
  go_enter Tryd.func39, Tryd.ntmps39
  go_wp2
  go_loop [4, 15] (fun nv iv => ∃ k : Nat, k ≤ n ∧ nv = .bool false ∧ iv = .int .i64 k) (fun _ iv => n - (intOf iv).toNat)
  case atStart => exact ⟨0, Nat.zero_le _, rfl, rfl⟩
  case round =>
    obtain ⟨k, hk, rfl, rfl⟩ := hrel
    by_cases hkl : k < n
    · have hkl' : k < l.length := by rw [Hn.out]; exact hkl
      have hget := List.getElem?_eq_getElem hkl'
      obtain ⟨c, hc⟩ : ∃ c, c = l[k] := ⟨_, rfl⟩
      rw [← hc] at hget
      have hcell := hr0.cell hget
      have hv := hidF (valid_name c w (Hnm.out c (by rw [hc]; exact List.getElem_mem hkl')))
      clear hget hc hkl'
      go_wp2_with fail
      refine hv.out.mono ?_
      rintro e w1 ⟨rfl, rfl⟩
      go_wp2_with fail
      go_round
      case rel => exact ⟨k + 1, by omega, rfl, by go_num⟩
      case measure => simp [intOf]; omega
    · obtain rfl : k = n := by omega
      go_wp2_with fail
      go_loopw [7, 31] (fun uv iv wr => ∃ (u : Bool) (j : Nat), uv = .bool u ∧ iv = .int .i64 j ∧ j ≤ k ∧ u = flagAt true (canF true l) j ∧ Row wr B (mix (canF true l) l j) ∧ Below B w wr) (fun _ iv _ => k - (intOf iv).toNat)
      case atStart => exact ⟨true, 0, rfl, rfl, Nat.zero_le _, rfl, by rw [mix_zero]; exact hr0, Below.refl _ _⟩
      case round =>
        obtain ⟨u, j, rfl, rfl, hj, hu, hr, hb⟩ := hrel
        by_cases hjl : j < k
        · have hjl' : j < l.length := by rw [Hn.out]; exact hjl
          have hget := List.getElem?_eq_getElem hjl'
          have hcg := canF_get _ true _ _ hget
          have hnx := canF_next _ true _ _ hget
          have hlen' : (canF true l).length = l.length := Hlen.out
          have hat := mix_at (canF true l) l j hjl' hlen'
          have hcell := hr.cell (hat.trans hget)
          have hfree := hr.free (hat.trans hget)
          have hset := mix_set (canF true l) l j hjl' hlen' _ hcg
          obtain ⟨c, hc⟩ : ∃ c, c = l[j] := ⟨_, rfl⟩
          rw [← hc] at hget hcg hcell hnx hset
          rw [← hu] at hcg hnx hset
          have hrn := Row.set hr j (canC u c)
          rw [hset] at hrn
          have hbn := hb.setCell (p := ⟨B, j, none⟩) (Nat.le_refl _) (.int .u8 ((canC u c).toNat : Int))
          have hto := canC_toNat u c
          have hnx2 : (((canC u c).toNat : Int) == 45) = flagAt true (canF true l) (j + 1) := by
            rw [hnx, Bool.eq_iff_iff, beq_iff_eq, beq_iff_eq]
            constructor
            · intro h; apply UInt8.toNat_inj.1; have : (45 : UInt8).toNat = 45 := rfl; omega
            · intro h; rw [h]; rfl
          have Hnx := hidF hnx2
          clear hget hcg hnx hlen' hat hset hc hu hr hb hnx2 hjl'
          cases u with
          | true =>
            by_cases h97 : 97 ≤ c.toNat
            · have f1 : (97 : Int) ≤ (c.toNat : Int) := by omega
              by_cases h122 : c.toNat ≤ 122
              · have f2 : (c.toNat : Int) ≤ 122 := by omega
                have e1 : ((canC true c).toNat : Int) = (c.toNat : Int) - 32 := by rw [hto, if_pos ⟨rfl, h97, h122⟩]; omega
                rw [e1] at hrn hbn Hnx
                have Hrn := hidF hrn
                have Hbn := hidF hbn
                clear hto e1 hrn hbn h97 h122
                go_wp2
                go_roundw
                case rel => exact ⟨_, j + 1, rfl, by go_num, by omega, Hnx.out, Hrn.out, Hbn.out⟩
                case measure => simp [intOf]; omega
              · have f2 : decide ((c.toNat : Int) ≤ 122) = false := decide_eq_false (by omega)
                have e1 : ((canC true c).toNat : Int) = (c.toNat : Int) := by rw [hto, if_neg (fun h => h122 h.2.2), if_neg (fun h => absurd h.1 (by decide))]
                rw [e1] at hrn hbn Hnx
                have Hrn := hidF hrn
                have Hbn := hidF hbn
                clear hto e1 hrn hbn h97 h122
                go_wp2
                go_roundw
                case rel => exact ⟨_, j + 1, rfl, by go_num, by omega, Hnx.out, Hrn.out, Hbn.out⟩
                case measure => simp [intOf]; omega
            · have f1 : decide ((97 : Int) ≤ (c.toNat : Int)) = false := decide_eq_false (by omega)
              have e1 : ((canC true c).toNat : Int) = (c.toNat : Int) := by rw [hto, if_neg (fun h => h97 h.2.1), if_neg (fun h => absurd h.1 (by decide))]
              rw [e1] at hrn hbn Hnx
              have Hrn := hidF hrn
              have Hbn := hidF hbn
              clear hto e1 hrn hbn h97
              go_wp2
              go_roundw
              case rel => exact ⟨_, j + 1, rfl, by go_num, by omega, Hnx.out, Hrn.out, Hbn.out⟩
              case measure => simp [intOf]; omega
          | false =>
            by_cases h65 : 65 ≤ c.toNat
            · have f1 : (65 : Int) ≤ (c.toNat : Int) := by omega
              by_cases h90 : c.toNat ≤ 90
              · have f2 : (c.toNat : Int) ≤ 90 := by omega
                have e1 : ((canC false c).toNat : Int) = (c.toNat : Int) + 32 := by rw [hto, if_neg (fun h => absurd h.1 (by decide)), if_pos ⟨rfl, h65, h90⟩]; omega
                rw [e1] at hrn hbn Hnx
                have Hrn := hidF hrn
                have Hbn := hidF hbn
                clear hto e1 hrn hbn h65 h90
                go_wp2
                go_roundw
                case rel => exact ⟨_, j + 1, rfl, by go_num, by omega, Hnx.out, Hrn.out, Hbn.out⟩
                case measure => simp [intOf]; omega
              · have f2 : decide ((c.toNat : Int) ≤ 90) = false := decide_eq_false (by omega)
                have e1 : ((canC false c).toNat : Int) = (c.toNat : Int) := by rw [hto, if_neg (fun h => absurd h.1 (by decide)), if_neg (fun h => h90 h.2.2)]
                rw [e1] at hrn hbn Hnx
                have Hrn := hidF hrn
                have Hbn := hidF hbn
                clear hto e1 hrn hbn h65 h90
                go_wp2
                go_roundw
                case rel => exact ⟨_, j + 1, rfl, by go_num, by omega, Hnx.out, Hrn.out, Hbn.out⟩
                case measure => simp [intOf]; omega
            · have f1 : decide ((65 : Int) ≤ (c.toNat : Int)) = false := decide_eq_false (by omega)
              have e1 : ((canC false c).toNat : Int) = (c.toNat : Int) := by rw [hto, if_neg (fun h => absurd h.1 (by decide)), if_neg (fun h => h65 h.2.1)]
              rw [e1] at hrn hbn Hnx
              have Hrn := hidF hrn
              have Hbn := hidF hbn
              clear hto e1 hrn hbn h65
              go_wp2
              go_roundw
              case rel => exact ⟨_, j + 1, rfl, by go_num, by omega, Hnx.out, Hrn.out, Hbn.out⟩
              case measure => simp [intOf]; omega
        · obtain rfl : j = k := by omega
          rw [mix_all _ _ _ (by rw [Hlen.out, Hn.out]) Hn.out] at hr
          have hback := hr.back cap
          rw [show (canF true l).length = j by rw [Hlen.out, Hn.out]] at hback
          clear hu
          go_wp2
          go_ret2
          exact ⟨rfl, hb⟩

end Go.Proofs.YtddnjdapdcopgaaDoor
