/- spec.unbased: the walk. -/
import Derived.Test.YtbpoecfbcmdeeaaDoorUnbText
import Derived.Test.YtbpoecfbcmdeeaaDoorBits
import Derived.Test.YtbpoecfbcmdeeaaDoorUnq
import Derived.Deep.DeepCutAuto
namespace Go.Proofs.YtbpoecfbcmdeeaaDoor
open Go.RowKit

theorem OwnB.drewN {B : Nat} {v : Value} {l : List UInt8} {w : World} (h : OwnB B v l w) (n : Nat) : OwnB B v l (w.drewN n) := h.below ⟨rfl, rfl, rfl, Nat.le_refl _, fun _ _ => rfl⟩
theorem below_dn {B : Nat} {a w : World} (h : Below B a w) (n : Nat) : Below B a (w.drewN n) := h.trans ⟨rfl, rfl, rfl, Nat.le_refl _, fun _ _ => rfl⟩
theorem unbL_odd : ∀ l : List UInt8, ¬ l.length % 4 = 0 → unbL l = none
  | [], h => absurd rfl h
  | [_], _ => rfl
  | [_, _], _ => rfl
  | [_, _, _], _ => rfl
  | c0 :: c1 :: c2 :: c3 :: r, h => by
    rw [unbL, unbL_odd r (by simp at h; omega)]
    cases quadL c0 c1 c2 c3 r.isEmpty <;> rfl
theorem byte_at (x t : Nat) (ht : t < 3) : IntKind.u8.wrap ((x : Int) / 2 ^ (16 - 8 * t)) = ((UInt8.ofNat (x / 2 ^ (16 - 8 * t) % 256)).toNat : Int) := by
  rw [IntKind.wrap_u8, UInt8.toNat_ofNat']
  match t, ht with
  | 0, _ => simp
  | 1, _ => simp
  | 2, _ => simp
theorem dig_get (j : Nat) (hj : j < digB64.size) : digB64[j] = digC j := by
  unfold digC
  rw [List.getD_eq_getElem?_getD, get_of digB64 j hj]
  rfl

set_option maxHeartbeats 4000000 in
set_option maxRecDepth 100000 in
theorem unbased_any (s : ByteArray) (w : World) (hs : s.size ≤ 1000000) :
    Calls Tryd.prog 17 #[.string s] w (UnOut w.heap.size (unbL s.data.toList) w) := by
  have Hsl := hidF (size_of_list s)
  by_cases h4 : s.size % 4 = 0
  · have m4 : ((s.size : Int) % 4 == 0) = true := beq_iff_eq.2 (by omega)
    have m4' : ((s.size : Int) % 4 != 0) = false := by simp; omega
    have m5 : (s.size : Int) % 4 = 0 := by omega
    have M5 := hidF m5
    clear m5
    go_enter Tryd.func17, Tryd.ntmps17
    go_wp2_with fail
    clear m4 m4'
    go_loopw [4, 5] (fun ov iv wr => ∃ (g : Nat) (out : List UInt8), 4 * g ≤ s.size ∧ iv = .int .i64 ((4 * g : Nat) : Int) ∧ OwnB w.heap.size ov out wr ∧ out.length ≤ 3 * g ∧ Below w.heap.size w wr ∧ Hid (unbL s.data.toList = (unbL (s.data.toList.drop (4 * g))).map (out ++ ·))) (fun _ iv _ => s.size - (intOf iv).toNat)
    case atStart => exact ⟨0, [], Nat.zero_le _, rfl, OwnB.nil _ _, Nat.zero_le _, Below.refl _ _, hidF (by rw [Nat.mul_zero, List.drop_zero]; cases unbL s.data.toList <;> simp)⟩
    case round =>
      obtain ⟨g, out, hg, rfl, hown, hol, hb, hst⟩ := hrel
      obtain ⟨i, hi⟩ : ∃ i, i = 4 * g := ⟨_, rfl⟩
      rw [← hi] at hg hst ⊢
      have Hi := hidF hi
      have hgi : 3 * g ≤ i := by omega
      clear hi
      have hBw := hb.size
      by_cases hlt : i < s.size
      · have hz : (i : Int) < (s.size : Int) := by omega
        have hge : i + 4 ≤ s.size := by have := Hi.out; omega
        have hge' : (i : Int) + 4 ≤ (s.size : Int) := by omega
        have hquad := hidF (show unbL s.data.toList = (quadL (s.data.toList.getD i 0) (s.data.toList.getD (i + 1) 0) (s.data.toList.getD (i + 2) 0) (s.data.toList.getD (i + 3) 0) (decide (i + 4 = s.size))).bind fun q => (unbL (s.data.toList.drop (i + 4))).map ((out ++ q) ++ ·) by
          have gd : ∀ m (hm : m < s.size), s.data.toList.getD m 0 = s[m] := fun m hm => by rw [List.getD_eq_getElem?_getD, get_of s m hm]; rfl
          have hem : (s.data.toList.drop (i + 4)).isEmpty = decide (i + 4 = s.size) := by
            rw [Bool.eq_iff_iff, List.isEmpty_iff, decide_eq_true_eq, List.drop_eq_nil_iff, ← Hsl.out]
            omega
          rw [hst.out, drop_cons s i (by omega), drop_cons s (i + 1) (by omega), drop_cons s (i + 1 + 1) (by omega), drop_cons s (i + 1 + 1 + 1) (by omega), unbL, gd i (by omega), gd (i + 1) (by omega), gd (i + 2) (by omega), gd (i + 3) (by omega)]
          rw [show i + 1 + 1 + 1 + 1 = i + 4 by omega, hem]
          cases quadL s[i] s[i + 1] s[i + 2] s[i + 3] (decide (i + 4 = s.size)) with
          | none => rfl
          | some q => simp [Option.map_map, Function.comp_def])
        go_wp2_with fail
        go_loopw [6, 7, 22] (fun xv nv kv wr2 => ∃ (k x n : Nat), k ≤ 4 ∧ kv = .int .i64 k ∧ xv = .int .i64 x ∧ nv = .int .i64 n ∧ x < 64 ^ k ∧ n ≤ 3 ∧ 1 ≤ n ∧ (k ≤ 3 → 2 ≤ n) ∧ (k ≤ 2 → 3 ≤ n) ∧ OwnB w.heap.size u4 out wr2 ∧ Below w.heap.size w wr2 ∧ Hid (quadL (s.data.toList.getD i 0) (s.data.toList.getD (i + 1) 0) (s.data.toList.getD (i + 2) 0) (s.data.toList.getD (i + 3) 0) (decide (i + 4 = s.size)) = contQ (fun k => s.data.toList.getD (i + k) 0) (decide (i + 4 = s.size)) (4 - k) k x n)) (fun _ _ kv _ => 4 - (intOf kv).toNat)
        case atStart => exact ⟨0, 0, 3, by omega, rfl, rfl, rfl, by decide, by omega, by omega, by omega, by omega, hown, hb, hidF (contQ_quad (fun k => s.data.toList.getD (i + k) 0) _).symm⟩
        case round =>
          obtain ⟨k, x, n, hk, rfl, rfl, rfl, hx, hn3, hn1, hnk3, hnk2, hown2, hb2, hcq⟩ := hrel
          have hBw2 := hb2.size
          by_cases hk4 : k < 4
          · have hzk : (k : Int) < 4 := by omega
            have hik : i + k < s.size := by omega
            have j1 : (i : Int) + (k : Int) < (s.size : Int) := by omega
            have j3 : IntKind.i64.wrap ((i : Int) + (k : Int)) = (i : Int) + (k : Int) := IntWalk.i64_in _ (by omega)
            have j4 : (0 : Int) ≤ (i : Int) + (k : Int) := by omega
            have j2 : ((i : Int) + (k : Int)).toNat = i + k := by omega
            obtain ⟨c, hc⟩ : ∃ c, c = s[i + k] := ⟨_, rfl⟩
            have hgc := hidF (show s.data.toList.getD (i + k) 0 = c by rw [List.getD_eq_getElem?_getD, get_of s (i + k) hik, hc]; rfl)
            have Hc := hidF hc
            clear hc
            go_wp2_with fail
            go_loopw [9, 25] (fun dv jv wr3 => ∃ j : Nat, j ≤ 64 ∧ jv = .int .i64 j ∧ dv = .int .i64 (dI c j) ∧ OwnB w.heap.size u4 out wr3 ∧ Below w.heap.size w wr3) (fun _ jv _ => 64 - (intOf jv).toNat)
            case atStart => exact ⟨0, by omega, rfl, by rw [dI_zero], hown2, hb2⟩
            case round =>
              obtain ⟨j, hj, rfl, rfl, hown3, hb3⟩ := hrel
              by_cases hj64 : j < 64
              · have hzj : (j : Int) < 64 := by omega
                have hdg := hidF (dig_get j hj64)
                have hdi := hidF (dig_iff j hj64 c)
                by_cases hit : digC j = c
                · have ht : ((digB64[j].toNat : Int) == (s[i + k].toNat : Int)) = true := by rw [hdg.out, hit, Hc.out]; exact beq_self_eq_true _
                  have hnd := hidF (dI_hit c j (hdi.out.1 hit))
                  clear hit
                  unfold digB64 at ht
                  go_wp2_with fail
                  go_quiet (fail)
                  go_wp2_with fail
                  go_roundw
                  case rel => exact ⟨j + 1, hj64, by go_num, by rw [hnd.out], hown3.drewN _, below_dn hb3 _⟩
                  case measure => simp [intOf]; omega
                · have ht : ((digB64[j].toNat : Int) == (s[i + k].toNat : Int)) = false := by
                    rw [hdg.out, ← Hc.out]
                    refine beq_eq_false_iff_ne.2 (fun e => hit (UInt8.toNat_inj.1 (by omega)))
                  have hnd := hidF (dI_miss c j (fun h => hit (hdi.out.2 h)))
                  clear hit
                  unfold digB64 at ht
                  go_wp2_with fail
                  go_quiet (fail)
                  go_wp2_with fail
                  go_roundw
                  case rel => exact ⟨j + 1, hj64, by go_num, by rw [hnd.out], hown3.drewN _, below_dn hb3 _⟩
                  case measure => simp [intOf]; omega
              · have hj4 : j = 64 := by omega
                have hzj : ¬ (j : Int) < 64 := by omega
                have Hj4 := hidF hj4
                clear hj4 hj64
                have hx3 : x + 1 ≤ 64 ^ k := hx
                have hxp : (x + 1) * 64 ≤ 64 ^ (k + 1) := by rw [Nat.pow_succ]; exact Nat.mul_le_mul_right 64 hx3
                have hxb : x < 262144 := by
                  have : 64 ^ k ≤ 64 ^ 3 := Nat.pow_le_pow_right (by omega) (by omega)
                  have e3 : 64 ^ 3 = 262144 := rfl
                  omega
                have Hxp := hidF hxp
                clear hxp hx3 hx
                have x1 : (x : Int) < 262144 := by omega
                cases hv : b64V c with
                | some d =>
                  have hdl := b64V_lt _ _ hv
                  have hd64 := hidF (show dI c j = (d : Int) by rw [Hj4.out]; exact dI_some c d hv)
                  have hor := or64 x d (by omega) hdl
                  have hnx := hidF (show contQ (fun k => s.data.toList.getD (i + k) 0) (decide (i + 4 = s.size)) (4 - k) k x n = contQ (fun k => s.data.toList.getD (i + k) 0) (decide (i + 4 = s.size)) (4 - (k + 1)) (k + 1) (x * 64 + d) n by
                    rw [show 4 - k = (4 - (k + 1)) + 1 by omega, contQ]
                    simp only [hgc.out, hv])
                  have dl : (d : Int) < 64 := by omega
                  have x2 : IntKind.i64.wrap ((x : Int) * 64) = (x : Int) * 64 := IntWalk.i64_in _ (by omega)
                  clear hv
                  rw [hd64.out]
                  have Hxb := hidF hxb
                  clear x1 hxb
                  go_wp2_with fail
                  go_roundw
                  case rel => exact ⟨k + 1, x * 64 + d, n, hk4, by go_num, by congr 1, rfl, by have := Hxp.out; omega, hn3, hn1, fun _ => hnk3 (by omega), fun _ => hnk2 (by omega), hown3, hb3, hidF (hcq.out.trans hnx.out)⟩
                  case measure => simp [intOf]; omega
                | none =>
                  have hd64 := hidF (show dI c j = -1 by rw [Hj4.out]; exact dI_none c hv)
                  have hstep := hidF (show contQ (fun k => s.data.toList.getD (i + k) 0) (decide (i + 4 = s.size)) (4 - k) k x n = if c = 61 ∧ decide (i + 4 = s.size) = true ∧ 2 ≤ k ∧ (k = 2 → s.data.toList.getD (i + 3) 0 = 61) then contQ (fun k => s.data.toList.getD (i + k) 0) (decide (i + 4 = s.size)) (4 - (k + 1)) (k + 1) (x * 64) (n - 1) else none by
                    rw [show 4 - k = (4 - (k + 1)) + 1 by omega, contQ]
                    simp only [hgc.out, hv])
                  clear hv
                  rw [hd64.out]
                  have x2 : IntKind.i64.wrap ((x : Int) * 64) = (x : Int) * 64 := IntWalk.i64_in _ (by omega)
                  have hor := or64 x 0 (by omega) (by omega)
                  rw [show ((0 : Nat) : Int) = 0 from rfl, Int.add_zero] at hor
                  clear x1 hxb
                  by_cases hc61 : c = 61
                  · have e61 : ((s[i + k].toNat : Int) != 61) = false := by rw [← Hc.out, hc61]; rfl
                    by_cases hl4 : i + 4 = s.size
                    · have e4 : ¬ (i : Int) + 4 < (s.size : Int) := by omega
                      by_cases hk2 : 2 ≤ k
                      · have e2 : ¬ (k : Int) < 2 := by omega
                        by_cases hkk : k = 2
                        · have ek : ((k : Int) == 2) = true := beq_iff_eq.2 (by omega)
                          have i3 : (i : Int) + 3 < (s.size : Int) := by omega
                          have i3n : ((i : Int) + 3).toNat = i + 3 := by omega
                          have i3' : i + 3 < s.size := by omega
                          have hg3 := hidF (show s.data.toList.getD (i + 3) 0 = s[i + 3] by rw [List.getD_eq_getElem?_getD, get_of s (i + 3) i3']; rfl)
                          by_cases h3 : s[i + 3] = 61
                          · have e3 : ((s[i + 3].toNat : Int) != 61) = false := by rw [h3]; rfl
                            have hnx := hidF (hstep.out.trans (if_pos ⟨hc61, decide_eq_true hl4, hk2, fun _ => by rw [hg3.out, h3]⟩))
                            have hn2 := hidF (show 3 ≤ n from hnk2 (by omega))
                            have Hkk := hidF hkk
                            have Hl4 := hidF hl4
                            clear hstep h3 hkk hl4 hc61
                            go_wp2_with fail
                            go_roundw
                            case rel => exact ⟨k + 1, x * 64, n - 1, hk4, by go_num, by congr 1, by congr 1; have := hn2.out; omega, by have := Hxp.out; omega, by omega, by have := hn2.out; omega, fun _ => by have := hn2.out; omega, fun h => by have := Hkk.out; omega, hown3, hb3, hidF (hcq.out.trans hnx.out)⟩
                            case measure => simp [intOf]; omega
                          · have e3 : ((s[i + 3].toNat : Int) != 61) = true := by
                              refine bne_iff_ne.2 (fun e => h3 (UInt8.toNat_inj.1 ?_))
                              have : (61 : UInt8).toNat = 61 := rfl
                              omega
                            have hnx := hidF (hstep.out.trans (if_neg (fun h => h3 (by rw [← hg3.out]; exact h.2.2.2 hkk))))
                            have hno := hidF (show unbL s.data.toList = none by rw [hquad.out, hcq.out, hnx.out]; rfl)
                            clear hstep h3 hkk hl4 hc61
                            go_wp2_with fail
                            go_ret2
                            exact ⟨hb3, .inr ⟨hno.out, rfl⟩⟩
                        · have ek : ((k : Int) == 2) = false := beq_eq_false_iff_ne.2 (by omega)
                          have hnx := hidF (hstep.out.trans (if_pos ⟨hc61, decide_eq_true hl4, hk2, fun h => absurd h hkk⟩))
                          have hn2 := hidF (show 2 ≤ n from hnk3 (by omega))
                          have hk3 := hidF (show k = 3 by omega)
                          clear hstep hkk hl4 hc61
                          go_wp2_with fail
                          go_roundw
                          case rel => exact ⟨k + 1, x * 64, n - 1, hk4, by go_num, by congr 1, by congr 1; have := hn2.out; omega, by have := Hxp.out; omega, by omega, by have := hn2.out; omega, fun h => by have := hk3.out; omega, fun h => by have := hk3.out; omega, hown3, hb3, hidF (hcq.out.trans hnx.out)⟩
                          case measure => simp [intOf]; omega
                      · have e2 : (k : Int) < 2 := by omega
                        have hnx := hidF (hstep.out.trans (if_neg (fun h => hk2 h.2.2.1)))
                        have hno := hidF (show unbL s.data.toList = none by rw [hquad.out, hcq.out, hnx.out]; rfl)
                        clear hstep hl4 hc61
                        go_wp2_with fail
                        go_ret2
                        exact ⟨hb3, .inr ⟨hno.out, rfl⟩⟩
                    · have e4 : (i : Int) + 4 < (s.size : Int) := by omega
                      have hnx := hidF (hstep.out.trans (if_neg (fun h => hl4 (of_decide_eq_true h.2.1))))
                      have hno := hidF (show unbL s.data.toList = none by rw [hquad.out, hcq.out, hnx.out]; rfl)
                      clear hstep hl4 hc61
                      go_wp2_with fail
                      go_ret2
                      exact ⟨hb3, .inr ⟨hno.out, rfl⟩⟩
                  · have e61 : ((s[i + k].toNat : Int) != 61) = true := by
                      refine bne_iff_ne.2 (fun e => hc61 (UInt8.toNat_inj.1 ?_))
                      have : (61 : UInt8).toNat = 61 := rfl
                      rw [Hc.out]
                      omega
                    have hnx := hidF (hstep.out.trans (if_neg (fun h => hc61 h.1)))
                    have hno := hidF (show unbL s.data.toList = none by rw [hquad.out, hcq.out, hnx.out]; rfl)
                    clear hstep hc61
                    go_wp2_with fail
                    go_ret2
                    exact ⟨hb3, .inr ⟨hno.out, rfl⟩⟩
          · have hk4e : k = 4 := by omega
            have hzk : ¬ (k : Int) < 4 := by omega
            have hxb : x < 16777216 := by
              have := hx
              rw [hk4e] at this
              exact this
            have hfin := hidF (show contQ (fun k => s.data.toList.getD (i + k) 0) (decide (i + 4 = s.size)) (4 - k) k x n = if x % 2 ^ (24 - 8 * n) = 0 then some ((three x).take n) else none by
              rw [hk4e]; rfl)
            have Hx := hidF hx
            have Hk := hidF hk4e
            clear hx hk4 hk4e
            have hcases : n = 1 ∨ n = 2 ∨ n = 3 := by omega
            rcases hcases with rfl | rfl | rfl
            · have ha := and65535 x (by omega)
              by_cases hz0 : x % 65536 = 0
              · have hq := hidF (hcq.out.trans (hfin.out.trans (if_pos hz0)))
                rw [hz0] at ha
                clear hxb hz0 hfin
                go_wp2_with fail
                clear ha
                go_loopw [4, 84] (fun ov tv wr3 => ∃ t : Nat, t ≤ 1 ∧ tv = .int .i64 t ∧ OwnB w.heap.size ov (out ++ (three x).take t) wr3 ∧ Below w.heap.size w wr3) (fun _ tv _ => 1 - (intOf tv).toNat)
                case atStart => exact ⟨0, by omega, rfl, by rw [List.take_zero, List.append_nil]; exact hown2, hb2⟩
                case round =>
                  obtain ⟨t, ht, rfl, hown4, hb4⟩ := hrel
                  have hBw4 := hb4.size
                  have hlen4 : (out ++ (three x).take t).length + 1 ≤ 1000000000 := by
                    have h3 : ((three x).take t).length ≤ 3 := Nat.le_trans (List.length_take_le _ _) (by have := Hk.out; omega)
                    rw [List.length_append]; omega
                  by_cases htn : t < 1
                  · have hzt : (t : Int) < 1 := by omega
                    have htk := three_take x t (by omega)
                    obtain ⟨l4, hl4⟩ : ∃ l4, l4 = out ++ (three x).take t := ⟨_, rfl⟩
                    have hnext := hidF (show out ++ (three x).take (t + 1) = l4 ++ [UInt8.ofNat (x / 2 ^ (16 - 8 * t) % 256)] by rw [htk, hl4, List.append_assoc])
                    rw [← hl4] at hown4 hlen4
                    have hbyte := hidF (byte_at x t (by omega))
                    clear htk hl4
                    have htc : t = 0 := by omega
                    rcases htc with rfl
                    · have hbt := hbyte.out
                      clear hbyte
                      replace hbt := hidF hbt
                      go_wp2_with (first | (at_builtin; refine wpList_append_byte rfl _ _ rfl _ _ l4 _ _ wr _ rfl hown4 rfl hlen4 hBw4 hbt.out ?_; intro v' w5 hown5 hb5 _) | fail)
                      go_roundw
                      case rel => exact ⟨0 + 1, by omega, by first | rfl | go_num, by rw [hnext.out]; exact hown5, hb4.trans hb5⟩
                      case measure => simp [intOf]
                  · have hzt : ¬ (t : Int) < 1 := by omega
                    have hte : t = 1 := by omega
                    have hl4 := hidF (show out ++ (three x).take t = out ++ (three x).take 1 by rw [hte])
                    have Hte := hidF hte
                    clear hte htn
                    go_wp2_with fail
                    go_roundw
                    case rel =>
                      refine ⟨g + 1, out ++ (three x).take 1, by have := Hi.out; omega, by have := Hi.out; congr 1; omega, by rw [← hl4.out]; exact hown4, ?_, hb4, ?_⟩
                      · have h3 : ((three x).take 1).length ≤ 3 := Nat.le_trans (List.length_take_le _ _) (by omega)
                        rw [List.length_append]; omega
                      · refine hidF (hquad.out.trans ?_)
                        rw [hq.out, show 4 * (g + 1) = i + 4 by have := Hi.out; omega]
                        rfl
                    case measure => simp [intOf]; omega
              · have hnx := hidF (hfin.out.trans (if_neg hz0))
                have hno := hidF (show unbL s.data.toList = none by rw [hquad.out, hcq.out, hnx.out]; rfl)
                obtain ⟨y, hy⟩ : ∃ y, y = x % 65536 := ⟨_, rfl⟩
                rw [← hy] at ha hz0
                have hzy : ((y : Int) != 0) = true := bne_iff_ne.2 (by omega)
                clear hy hxb hfin
                go_wp2_with fail
                go_ret2
                exact ⟨hb2, .inr ⟨hno.out, rfl⟩⟩
            · have ha := and255 x (by omega)
              by_cases hz0 : x % 256 = 0
              · have hq := hidF (hcq.out.trans (hfin.out.trans (if_pos hz0)))
                rw [hz0] at ha
                clear hxb hz0 hfin
                go_wp2_with fail
                clear ha
                go_loopw [4, 84] (fun ov tv wr3 => ∃ t : Nat, t ≤ 2 ∧ tv = .int .i64 t ∧ OwnB w.heap.size ov (out ++ (three x).take t) wr3 ∧ Below w.heap.size w wr3) (fun _ tv _ => 2 - (intOf tv).toNat)
                case atStart => exact ⟨0, by omega, rfl, by rw [List.take_zero, List.append_nil]; exact hown2, hb2⟩
                case round =>
                  obtain ⟨t, ht, rfl, hown4, hb4⟩ := hrel
                  have hBw4 := hb4.size
                  have hlen4 : (out ++ (three x).take t).length + 1 ≤ 1000000000 := by
                    have h3 : ((three x).take t).length ≤ 3 := Nat.le_trans (List.length_take_le _ _) (by have := Hk.out; omega)
                    rw [List.length_append]; omega
                  by_cases htn : t < 2
                  · have hzt : (t : Int) < 2 := by omega
                    have htk := three_take x t (by omega)
                    obtain ⟨l4, hl4⟩ : ∃ l4, l4 = out ++ (three x).take t := ⟨_, rfl⟩
                    have hnext := hidF (show out ++ (three x).take (t + 1) = l4 ++ [UInt8.ofNat (x / 2 ^ (16 - 8 * t) % 256)] by rw [htk, hl4, List.append_assoc])
                    rw [← hl4] at hown4 hlen4
                    have hbyte := hidF (byte_at x t (by omega))
                    clear htk hl4
                    have htc : t = 0 ∨ t = 1 := by omega
                    rcases htc with rfl | rfl
                    · have hbt := hbyte.out
                      clear hbyte
                      replace hbt := hidF hbt
                      go_wp2_with (first | (at_builtin; refine wpList_append_byte rfl _ _ rfl _ _ l4 _ _ wr _ rfl hown4 rfl hlen4 hBw4 hbt.out ?_; intro v' w5 hown5 hb5 _) | fail)
                      go_roundw
                      case rel => exact ⟨0 + 1, by omega, by first | rfl | go_num, by rw [hnext.out]; exact hown5, hb4.trans hb5⟩
                      case measure => simp [intOf]
                    · have hbt := hbyte.out
                      clear hbyte
                      replace hbt := hidF hbt
                      go_wp2_with (first | (at_builtin; refine wpList_append_byte rfl _ _ rfl _ _ l4 _ _ wr _ rfl hown4 rfl hlen4 hBw4 hbt.out ?_; intro v' w5 hown5 hb5 _) | fail)
                      go_roundw
                      case rel => exact ⟨1 + 1, by omega, by first | rfl | go_num, by rw [hnext.out]; exact hown5, hb4.trans hb5⟩
                      case measure => simp [intOf]
                  · have hzt : ¬ (t : Int) < 2 := by omega
                    have hte : t = 2 := by omega
                    have hl4 := hidF (show out ++ (three x).take t = out ++ (three x).take 2 by rw [hte])
                    have Hte := hidF hte
                    clear hte htn
                    go_wp2_with fail
                    go_roundw
                    case rel =>
                      refine ⟨g + 1, out ++ (three x).take 2, by have := Hi.out; omega, by have := Hi.out; congr 1; omega, by rw [← hl4.out]; exact hown4, ?_, hb4, ?_⟩
                      · have h3 : ((three x).take 2).length ≤ 3 := Nat.le_trans (List.length_take_le _ _) (by omega)
                        rw [List.length_append]; omega
                      · refine hidF (hquad.out.trans ?_)
                        rw [hq.out, show 4 * (g + 1) = i + 4 by have := Hi.out; omega]
                        rfl
                    case measure => simp [intOf]; omega
              · have hnx := hidF (hfin.out.trans (if_neg hz0))
                have hno := hidF (show unbL s.data.toList = none by rw [hquad.out, hcq.out, hnx.out]; rfl)
                obtain ⟨y, hy⟩ : ∃ y, y = x % 256 := ⟨_, rfl⟩
                rw [← hy] at ha hz0
                have hzy : ((y : Int) != 0) = true := bne_iff_ne.2 (by omega)
                clear hy hxb hfin
                go_wp2_with fail
                go_ret2
                exact ⟨hb2, .inr ⟨hno.out, rfl⟩⟩
            · have ha := and0 x (by omega)
              have hq := hidF (hcq.out.trans (hfin.out.trans (if_pos (by show x % 1 = 0; omega))))
              clear hxb hfin
              go_wp2_with fail
              clear ha
              go_loopw [4, 84] (fun ov tv wr3 => ∃ t : Nat, t ≤ 3 ∧ tv = .int .i64 t ∧ OwnB w.heap.size ov (out ++ (three x).take t) wr3 ∧ Below w.heap.size w wr3) (fun _ tv _ => 3 - (intOf tv).toNat)
              case atStart => exact ⟨0, by omega, rfl, by rw [List.take_zero, List.append_nil]; exact hown2, hb2⟩
              case round =>
                obtain ⟨t, ht, rfl, hown4, hb4⟩ := hrel
                have hBw4 := hb4.size
                have hlen4 : (out ++ (three x).take t).length + 1 ≤ 1000000000 := by
                  have h3 : ((three x).take t).length ≤ 3 := Nat.le_trans (List.length_take_le _ _) (by have := Hk.out; omega)
                  rw [List.length_append]; omega
                by_cases htn : t < 3
                · have hzt : (t : Int) < 3 := by omega
                  have htk := three_take x t (by omega)
                  obtain ⟨l4, hl4⟩ : ∃ l4, l4 = out ++ (three x).take t := ⟨_, rfl⟩
                  have hnext := hidF (show out ++ (three x).take (t + 1) = l4 ++ [UInt8.ofNat (x / 2 ^ (16 - 8 * t) % 256)] by rw [htk, hl4, List.append_assoc])
                  rw [← hl4] at hown4 hlen4
                  have hbyte := hidF (byte_at x t (by omega))
                  clear htk hl4
                  have htc : t = 0 ∨ t = 1 ∨ t = 2 := by omega
                  rcases htc with rfl | rfl | rfl
                  · have hbt := hbyte.out
                    clear hbyte
                    replace hbt := hidF hbt
                    go_wp2_with (first | (at_builtin; refine wpList_append_byte rfl _ _ rfl _ _ l4 _ _ wr _ rfl hown4 rfl hlen4 hBw4 hbt.out ?_; intro v' w5 hown5 hb5 _) | fail)
                    go_roundw
                    case rel => exact ⟨0 + 1, by omega, by first | rfl | go_num, by rw [hnext.out]; exact hown5, hb4.trans hb5⟩
                    case measure => simp [intOf]
                  · have hbt := hbyte.out
                    clear hbyte
                    replace hbt := hidF hbt
                    go_wp2_with (first | (at_builtin; refine wpList_append_byte rfl _ _ rfl _ _ l4 _ _ wr _ rfl hown4 rfl hlen4 hBw4 hbt.out ?_; intro v' w5 hown5 hb5 _) | fail)
                    go_roundw
                    case rel => exact ⟨1 + 1, by omega, by first | rfl | go_num, by rw [hnext.out]; exact hown5, hb4.trans hb5⟩
                    case measure => simp [intOf]
                  · have hbt : IntKind.u8.wrap (x : Int) = ((UInt8.ofNat (x / 2 ^ (16 - 8 * 2) % 256)).toNat : Int) := by rw [← hbyte.out]; simp
                    clear hbyte
                    replace hbt := hidF hbt
                    go_wp2_with (first | (at_builtin; refine wpList_append_byte rfl _ _ rfl _ _ l4 _ _ wr _ rfl hown4 rfl hlen4 hBw4 hbt.out ?_; intro v' w5 hown5 hb5 _) | fail)
                    go_roundw
                    case rel => exact ⟨2 + 1, by omega, by first | rfl | go_num, by rw [hnext.out]; exact hown5, hb4.trans hb5⟩
                    case measure => simp [intOf]
                · have hzt : ¬ (t : Int) < 3 := by omega
                  have hte : t = 3 := by omega
                  have hl4 := hidF (show out ++ (three x).take t = out ++ (three x).take 3 by rw [hte])
                  have Hte := hidF hte
                  clear hte htn
                  go_wp2_with fail
                  go_roundw
                  case rel =>
                    refine ⟨g + 1, out ++ (three x).take 3, by have := Hi.out; omega, by have := Hi.out; congr 1; omega, by rw [← hl4.out]; exact hown4, ?_, hb4, ?_⟩
                    · have h3 : ((three x).take 3).length ≤ 3 := Nat.le_trans (List.length_take_le _ _) (by omega)
                      rw [List.length_append]; omega
                    · refine hidF (hquad.out.trans ?_)
                      rw [hq.out, show 4 * (g + 1) = i + 4 by have := Hi.out; omega]
                      rfl
                  case measure => simp [intOf]; omega
      · have hz : ¬ (i : Int) < (s.size : Int) := by omega
        have hyes := hidF (show unbL s.data.toList = some out by rw [hst.out, drop_end s i hlt, unbL]; simp)
        go_wp2_with fail
        go_ret2
        exact ⟨hb, .inl ⟨_, out, hyes.out, rfl, hown⟩⟩
  · have m4 : ((s.size : Int) % 4 != 0) = true := bne_iff_ne.2 (by omega)
    have hno := hidF (show unbL s.data.toList = none from unbL_odd _ (by rw [← Hsl.out]; exact h4))
    go_enter Tryd.func17, Tryd.ntmps17
    go_wp2_with fail
    go_ret2
    exact ⟨Below.refl _ _, .inr ⟨hno.out, rfl⟩⟩
end Go.Proofs.YtbpoecfbcmdeeaaDoor
