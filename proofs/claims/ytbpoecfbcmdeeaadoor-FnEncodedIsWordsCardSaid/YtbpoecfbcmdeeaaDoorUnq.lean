/- spec.hex and spec.unquoted: the walks. -/
import Derived.Test.YtbpoecfbcmdeeaaDoorWText
import Derived.Test.YtbpoecfbcmdeeaaDoorBytes
import Derived.Deep.QuietTactic
import Derived.Deep.RegionHeld3
import Derived.BigQuiet
import Derived.Outline
namespace Go.Proofs.YtbpoecfbcmdeeaaDoor
open Go.RowKit

def hexI (c : UInt8) : Int := match hexV c with | some x => (x : Int) | none => -1
theorem hexI_some (c : UInt8) (x : Nat) (h : hexV c = some x) : hexI c = (x : Int) := by unfold hexI; rw [h]
theorem hexI_none (c : UInt8) (h : hexV c = none) : hexI c = -1 := by unfold hexI; rw [h]

theorem hex_any (c : UInt8) (w : World) :
    Calls Tryd.prog 24 #[.int .u8 (c.toNat : Int)] w fun e w' => e = .returned (.int .i64 (hexI c)) ∧ w = w' := by
  have hc := c.toNat_lt
  by_cases h1 : 48 ≤ c.toNat ∧ c.toNat ≤ 57
  · have g1 : (48 : Int) ≤ (c.toNat : Int) := by omega
    have g2 : (c.toNat : Int) ≤ 57 := by omega
    have hv := hidF (show hexI c = (c.toNat : Int) - 48 by rw [hexI_some c (c.toNat - 48) (by unfold hexV; rw [if_pos h1])]; omega)
    clear h1
    go_enter Tryd.func24, Tryd.ntmps24
    go_wp2_with fail
    go_ret
    exact ⟨by rw [hv.out]; rfl, rfl⟩
  · by_cases h2 : 65 ≤ c.toNat ∧ c.toNat ≤ 70
    · have g1 : (48 : Int) ≤ (c.toNat : Int) := by omega
      have g2 : ¬ (c.toNat : Int) ≤ 57 := by omega
      have g3 : (65 : Int) ≤ (c.toNat : Int) := by omega
      have g4 : (c.toNat : Int) ≤ 70 := by omega
      have hv := hidF (show hexI c = (c.toNat : Int) - 65 + 10 by rw [hexI_some c (c.toNat - 55) (by unfold hexV; rw [if_neg h1, if_pos h2])]; omega)
      clear h1 h2
      go_enter Tryd.func24, Tryd.ntmps24
      go_wp2_with fail
      go_ret
      exact ⟨by rw [hv.out]; rfl, rfl⟩
    · have hv := hidF (show hexI c = -1 by rw [hexI_none c (by unfold hexV; rw [if_neg h1, if_neg h2])])
      by_cases a1 : 48 ≤ c.toNat
      · by_cases a2 : 65 ≤ c.toNat
        · have g1 : (48 : Int) ≤ (c.toNat : Int) := by omega
          have g2 : ¬ (c.toNat : Int) ≤ 57 := by omega
          have g3 : (65 : Int) ≤ (c.toNat : Int) := by omega
          have g4 : ¬ (c.toNat : Int) ≤ 70 := by omega
          clear h1 h2
          go_enter Tryd.func24, Tryd.ntmps24
          go_wp2_with fail
          go_ret
          exact ⟨by rw [hv.out]; rfl, rfl⟩
        · have g1 : (48 : Int) ≤ (c.toNat : Int) := by omega
          have g2 : ¬ (c.toNat : Int) ≤ 57 := by omega
          have g3 : ¬ (65 : Int) ≤ (c.toNat : Int) := by omega
          clear h1 h2
          go_enter Tryd.func24, Tryd.ntmps24
          go_wp2_with fail
          go_ret
          exact ⟨by rw [hv.out]; rfl, rfl⟩
      · have g1 : ¬ (48 : Int) ≤ (c.toNat : Int) := by omega
        have g3 : ¬ (65 : Int) ≤ (c.toNat : Int) := by omega
        clear h1 h2
        go_enter Tryd.func24, Tryd.ntmps24
        go_wp2_with fail
        go_ret
        exact ⟨by rw [hv.out]; rfl, rfl⟩

/-- What unquoted and unbased hand back. -/
def UnOut (B : Nat) (o : Option (List UInt8)) (w : World) (e : Ending) (w' : World) : Prop :=
  Below w.heap.size w w' ∧ ((∃ v l, o = some l ∧ e = .returned (.tuple #[v, .bool true]) ∧ OwnB B v l w') ∨ (o = none ∧ e = .returned (.tuple #[.slice none 0 0, .bool false])))

theorem or_hex (x y : Nat) (hx : x < 16) (hy : y < 16) : bits BinOp.or .i64 ((x : Int) * 16) (y : Int) = (x : Int) * 16 + (y : Int) := by
  have h : ∀ x y : Fin 16, bits BinOp.or .i64 ((x.val : Int) * 16) (y.val : Int) = (x.val : Int) * 16 + (y.val : Int) := by decide +kernel
  exact h ⟨x, hx⟩ ⟨y, hy⟩

set_option maxHeartbeats 4000000 in
set_option maxRecDepth 100000 in
theorem unquoted_any (s : ByteArray) (w : World) (hs : s.size ≤ 1000000) :
    Calls Tryd.prog 16 #[.string s, .bool false] w (UnOut w.heap.size (unqL s.data.toList) w) := by
  have Hsl := hidF (size_of_list s)
  go_enter Tryd.func16, Tryd.ntmps16
  go_wp2_with fail
  go_loopw [6, 7] (fun ov iv wr => ∃ (k : Nat) (out : List UInt8), k ≤ s.size ∧ iv = .int .i64 k ∧ OwnB w.heap.size ov out wr ∧ out.length ≤ k ∧ Below w.heap.size w wr ∧ Hid (unqL s.data.toList = (unqL (s.data.toList.drop k)).map (out ++ ·))) (fun _ iv _ => s.size - (intOf iv).toNat)
  case atStart => exact ⟨0, [], Nat.zero_le _, rfl, OwnB.nil _ _, Nat.zero_le _, Below.refl _ _, hidF (by rw [List.drop_zero]; cases unqL s.data.toList <;> simp)⟩
  case round =>
    obtain ⟨k, out, hk, rfl, hown, hol, hb, hst⟩ := hrel
    have hBw := hb.size
    by_cases hlt : k < s.size
    · have hz : (k : Int) < (s.size : Int) := by omega
      have hd := drop_cons s k hlt
      have hst' := hst.out
      rw [hd] at hst'
      obtain ⟨c, hc⟩ : ∃ c, c = s[k] := ⟨_, rfl⟩
      rw [← hc] at hst'
      have hcl := c.toNat_lt
      by_cases h95 : c = 95
      · subst h95
        rw [unqL_under] at hst'
        have hnx := hidF (show unqL s.data.toList = (unqL (s.data.toList.drop (k + 1))).map ((out ++ [32]) ++ ·) by rw [hst']; simp [Option.map_map, Function.comp_def])
        have g1 : ((s[k].toNat : Int) == 95) = true := by rw [← hc]; decide
        clear hst' hst hd hc
        go_wp2_with (first | (at_builtin; refine wpList_append_byte rfl _ _ rfl _ _ out 32 _ wr _ rfl hown rfl (by omega) hBw rfl ?_; intro v' w2 hown2 hb2 _) | fail)
        go_roundw
        case rel => exact ⟨k + 1, out ++ [32], hlt, by go_num, hown2, by simp; omega, hb.trans hb2, hnx⟩
        case measure => simp [intOf]; omega
      · have n95 : ((s[k].toNat : Int) == 95) = false := beq_eq_false_iff_ne.2 (by
          intro e; apply h95; apply UInt8.toNat_inj.1; have : (95 : UInt8).toNat = 95 := rfl; rw [hc]; omega)
        by_cases h61 : c = 61
        · subst h61
          have g1 : ((s[k].toNat : Int) == 61) = true := by rw [← hc]; decide
          by_cases hsh : k + 2 < s.size
          · have hd1 := drop_cons s (k + 1) (by omega)
            have hd2 := drop_cons s (k + 2) hsh
            rw [hd1, hd2] at hst'
            have f1 : ¬ (s.size : Int) ≤ (k : Int) + 2 := by omega
            have f2 : (k : Int) + 1 < (s.size : Int) := by omega
            have f3 : (k : Int) + 2 < (s.size : Int) := by omega
            have f4 : ((k : Int) + 1).toNat = k + 1 := by omega
            have f5 : ((k : Int) + 2).toNat = k + 2 := by omega
            cases hx : hexV s[k + 1] with
            | none =>
              have hno := hidF (show unqL s.data.toList = none by rw [hst', unqL_nohex _ _ _ (.inl hx)]; rfl)
              have hi := hidF (hexI_none _ hx)
              clear hst' hst hd hd1 hd2 hc hx
              go_wp2_with fail
              refine (hex_any s[k + 1] wr).mono ?_
              rintro e w1 ⟨rfl, rfl⟩
              rw [hi.out]
              go_wp2_with fail
              go_ret2
              exact ⟨hb, .inr ⟨hno.out, rfl⟩⟩
            | some x =>
              have hi := hidF (hexI_some _ _ hx)
              have hxl := hexV_lt _ _ hx
              cases hy : hexV s[k + 2] with
              | none =>
                have hno := hidF (show unqL s.data.toList = none by rw [hst', unqL_nohex _ _ _ (.inr hy)]; rfl)
                have hj := hidF (hexI_none _ hy)
                clear hst' hst hd hd1 hd2 hc hx hy
                go_wp2_with fail
                refine (hex_any s[k + 1] wr).mono ?_
                rintro e w1 ⟨rfl, rfl⟩
                rw [hi.out]
                go_wp2_with fail
                refine (hex_any s[k + 2] wr).mono ?_
                rintro e w1 ⟨rfl, rfl⟩
                rw [hj.out]
                go_wp2_with fail
                go_ret2
                exact ⟨hb, .inr ⟨hno.out, rfl⟩⟩
              | some y =>
                have hj := hidF (hexI_some _ _ hy)
                have hyl := hexV_lt _ _ hy
                have hnx := hidF (show unqL s.data.toList = (unqL (s.data.toList.drop (k + 3))).map ((out ++ [UInt8.ofNat (16 * x + y)]) ++ ·) by
                  rw [hst', unqL_hex _ _ _ _ _ hx hy]; simp [Option.map_map, Function.comp_def])
                have hor := or_hex x y hxl hyl
                have hby := hidF (show (x : Int) * 16 + (y : Int) = ((UInt8.ofNat (16 * x + y)).toNat : Int) by rw [UInt8.toNat_ofNat']; omega)
                have hx1 := hidF (fun w => by have := hex_any s[k + 1] w; rw [hi.out] at this; exact this)
                have hy1 := hidF (fun w => by have := hex_any s[k + 2] w; rw [hj.out] at this; exact this)
                have x1 : (x : Int) < 16 := by omega
                have y1 : (y : Int) < 16 := by omega
                have x2 : IntKind.i64.wrap ((x : Int) * 16) = (x : Int) * 16 := IntWalk.i64_in _ (by omega)
                have y2 : IntKind.u8.wrap ((x : Int) * 16 + (y : Int)) = (x : Int) * 16 + (y : Int) := IntWalk.u8_in _ (by omega)
                have w1 : IntKind.i64.wrap ((k : Int) + 1) = (k : Int) + 1 := IntWalk.i64_in _ (by omega)
                have w2 : IntKind.i64.wrap ((k : Int) + 2) = (k : Int) + 2 := IntWalk.i64_in _ (by omega)
                have p1 : (0 : Int) ≤ (k : Int) + 1 := by omega
                have p2 : (0 : Int) ≤ (k : Int) + 2 := by omega
                clear hst' hst hd hd1 hd2 hc hx hy hi hj
                go_wp2_with fail
                refine (hx1.out wr).mono ?_
                rintro e w1 ⟨rfl, rfl⟩
                go_wp2_with fail
                refine (hy1.out wr).mono ?_
                rintro e w1 ⟨rfl, rfl⟩
                go_wp2_with fail
                go_region_held3 (fun _ => True) (trivial) ((first | (go_at_call 24; (first | (with_reducible refine (hx1.out _).mono ?_) | (with_reducible refine (hy1.out _).mono ?_)); rintro e w1 ⟨rfl, rfl⟩) | (refine step_append_byte (by rfl) _ _ (by rfl) w.heap.size _ out (UInt8.ofNat (16 * x + y)) _ wr _ (by rfl) hown (by rfl) (by omega) hBw hby.out ?_; intro v' w2 hown2 hb2)))
                all_goals
                  go_wp2_with fail
                  go_roundw
                  case rel => exact ⟨k + 3, out ++ [UInt8.ofNat (16 * x + y)], by omega, by congr 1, hown2, by simp; omega, hb.trans hb2, hnx⟩
                  case measure => simp [intOf]; omega
          · have f1 : (s.size : Int) ≤ (k : Int) + 2 := by omega
            have hno := hidF (show unqL s.data.toList = none by rw [hst', unqL_short _ (by rw [List.length_drop, ← Hsl.out]; omega)]; rfl)
            clear hst' hst hd hc
            go_wp2_with fail
            go_ret2
            exact ⟨hb, .inr ⟨hno.out, rfl⟩⟩
        · have n61 : ((s[k].toNat : Int) == 61) = false := beq_eq_false_iff_ne.2 (by
            intro e; apply h61; apply UInt8.toNat_inj.1; have : (61 : UInt8).toNat = 61 := rfl; rw [hc]; omega)
          have hcn : s[k].toNat = c.toNat := by rw [hc]
          cases hok : okQ c with
          | true =>
            have hrange : 33 ≤ s[k].toNat ∧ s[k].toNat ≤ 126 := by
              have := hok
              simp [okQ] at this
              omega
            have hnx := hidF (show unqL s.data.toList = (unqL (s.data.toList.drop (k + 1))).map ((out ++ [c]) ++ ·) by rw [hst', unqL_plain _ _ h95 h61 hok]; simp [Option.map_map, Function.comp_def])
            have hcc := hidF (show (s[k].toNat : Int) = (c.toNat : Int) by omega)
            clear hst' hst hd hok h95 h61 hc hcn hcl
            have hcases : (33 ≤ s[k].toNat ∧ s[k].toNat ≤ 47) ∨ (48 ≤ s[k].toNat ∧ s[k].toNat ≤ 57) ∨ (58 ≤ s[k].toNat ∧ s[k].toNat ≤ 64) ∨ (65 ≤ s[k].toNat ∧ s[k].toNat ≤ 90) ∨ (91 ≤ s[k].toNat ∧ s[k].toNat ≤ 96) ∨ (97 ≤ s[k].toNat ∧ s[k].toNat ≤ 122) ∨ (123 ≤ s[k].toNat ∧ s[k].toNat ≤ 126) := by omega
            have t32 : (32 : Int) < (s[k].toNat : Int) := by omega
            have t127 : (s[k].toNat : Int) < 127 := by omega
            rcases hcases with h | h | h | h | h | h | h
            · have a1 : ¬ (48 : Int) ≤ (s[k].toNat : Int) := by omega
              have a2 : ¬ (97 : Int) ≤ (s[k].toNat : Int) := by omega
              have a3 : ¬ (65 : Int) ≤ (s[k].toNat : Int) := by omega
              clear h hrange
              by_cases k33 : s[k].toNat = 33
              · have e33 : ((s[k].toNat : Int) == 33) = true := beq_iff_eq.2 (by omega)
                clear k33
                go_wp2_with (first | (at_builtin; refine wpList_append_byte rfl _ _ rfl _ _ out c _ wr _ rfl hown rfl (by omega) hBw hcc.out ?_; intro v' w2 hown2 hb2 _) | fail)
                go_roundw
                case rel => exact ⟨k + 1, out ++ [c], hlt, by go_num, hown2, by simp; omega, hb.trans hb2, hnx⟩
                case measure => simp [intOf]; omega
              have e33 : ((s[k].toNat : Int) == 33) = false := beq_eq_false_iff_ne.2 (by omega)
              clear k33
              by_cases k42 : s[k].toNat = 42
              · have e42 : ((s[k].toNat : Int) == 42) = true := beq_iff_eq.2 (by omega)
                clear k42
                go_wp2_with (first | (at_builtin; refine wpList_append_byte rfl _ _ rfl _ _ out c _ wr _ rfl hown rfl (by omega) hBw hcc.out ?_; intro v' w2 hown2 hb2 _) | fail)
                go_roundw
                case rel => exact ⟨k + 1, out ++ [c], hlt, by go_num, hown2, by simp; omega, hb.trans hb2, hnx⟩
                case measure => simp [intOf]; omega
              have e42 : ((s[k].toNat : Int) == 42) = false := beq_eq_false_iff_ne.2 (by omega)
              clear k42
              by_cases k43 : s[k].toNat = 43
              · have e43 : ((s[k].toNat : Int) == 43) = true := beq_iff_eq.2 (by omega)
                clear k43
                go_wp2_with (first | (at_builtin; refine wpList_append_byte rfl _ _ rfl _ _ out c _ wr _ rfl hown rfl (by omega) hBw hcc.out ?_; intro v' w2 hown2 hb2 _) | fail)
                go_roundw
                case rel => exact ⟨k + 1, out ++ [c], hlt, by go_num, hown2, by simp; omega, hb.trans hb2, hnx⟩
                case measure => simp [intOf]; omega
              have e43 : ((s[k].toNat : Int) == 43) = false := beq_eq_false_iff_ne.2 (by omega)
              clear k43
              by_cases k45 : s[k].toNat = 45
              · have e45 : ((s[k].toNat : Int) == 45) = true := beq_iff_eq.2 (by omega)
                clear k45
                go_wp2_with (first | (at_builtin; refine wpList_append_byte rfl _ _ rfl _ _ out c _ wr _ rfl hown rfl (by omega) hBw hcc.out ?_; intro v' w2 hown2 hb2 _) | fail)
                go_roundw
                case rel => exact ⟨k + 1, out ++ [c], hlt, by go_num, hown2, by simp; omega, hb.trans hb2, hnx⟩
                case measure => simp [intOf]; omega
              have e45 : ((s[k].toNat : Int) == 45) = false := beq_eq_false_iff_ne.2 (by omega)
              clear k45
              by_cases k47 : s[k].toNat = 47
              · have e47 : ((s[k].toNat : Int) == 47) = true := beq_iff_eq.2 (by omega)
                clear k47
                go_wp2_with (first | (at_builtin; refine wpList_append_byte rfl _ _ rfl _ _ out c _ wr _ rfl hown rfl (by omega) hBw hcc.out ?_; intro v' w2 hown2 hb2 _) | fail)
                go_roundw
                case rel => exact ⟨k + 1, out ++ [c], hlt, by go_num, hown2, by simp; omega, hb.trans hb2, hnx⟩
                case measure => simp [intOf]; omega
              have e47 : ((s[k].toNat : Int) == 47) = false := beq_eq_false_iff_ne.2 (by omega)
              clear k47
              go_wp2_with (first | (at_builtin; refine wpList_append_byte rfl _ _ rfl _ _ out c _ wr _ rfl hown rfl (by omega) hBw hcc.out ?_; intro v' w2 hown2 hb2 _) | fail)
              go_roundw
              case rel => exact ⟨k + 1, out ++ [c], hlt, by go_num, hown2, by simp; omega, hb.trans hb2, hnx⟩
              case measure => simp [intOf]; omega
            · have a1 : (48 : Int) ≤ (s[k].toNat : Int) := by omega
              have a2 : (s[k].toNat : Int) ≤ 57 := by omega
              clear h hrange
              go_wp2_with (first | (at_builtin; refine wpList_append_byte rfl _ _ rfl _ _ out c _ wr _ rfl hown rfl (by omega) hBw hcc.out ?_; intro v' w2 hown2 hb2 _) | fail)
              go_roundw
              case rel => exact ⟨k + 1, out ++ [c], hlt, by go_num, hown2, by simp; omega, hb.trans hb2, hnx⟩
              case measure => simp [intOf]; omega
            · have a1 : (48 : Int) ≤ (s[k].toNat : Int) := by omega
              have a2 : ¬ (s[k].toNat : Int) ≤ 57 := by omega
              have a3 : ¬ (97 : Int) ≤ (s[k].toNat : Int) := by omega
              have a4 : ¬ (65 : Int) ≤ (s[k].toNat : Int) := by omega
              clear h hrange
              have e33 : ((s[k].toNat : Int) == 33) = false := beq_eq_false_iff_ne.2 (by omega)
              have e42 : ((s[k].toNat : Int) == 42) = false := beq_eq_false_iff_ne.2 (by omega)
              have e43 : ((s[k].toNat : Int) == 43) = false := beq_eq_false_iff_ne.2 (by omega)
              have e45 : ((s[k].toNat : Int) == 45) = false := beq_eq_false_iff_ne.2 (by omega)
              have e47 : ((s[k].toNat : Int) == 47) = false := beq_eq_false_iff_ne.2 (by omega)
              go_wp2_with (first | (at_builtin; refine wpList_append_byte rfl _ _ rfl _ _ out c _ wr _ rfl hown rfl (by omega) hBw hcc.out ?_; intro v' w2 hown2 hb2 _) | fail)
              go_roundw
              case rel => exact ⟨k + 1, out ++ [c], hlt, by go_num, hown2, by simp; omega, hb.trans hb2, hnx⟩
              case measure => simp [intOf]; omega
            · have a1 : (48 : Int) ≤ (s[k].toNat : Int) := by omega
              have a2 : ¬ (s[k].toNat : Int) ≤ 57 := by omega
              have a3 : ¬ (97 : Int) ≤ (s[k].toNat : Int) := by omega
              have a4 : (65 : Int) ≤ (s[k].toNat : Int) := by omega
              have a5 : (s[k].toNat : Int) ≤ 90 := by omega
              clear h hrange
              go_wp2_with (first | (at_builtin; refine wpList_append_byte rfl _ _ rfl _ _ out c _ wr _ rfl hown rfl (by omega) hBw hcc.out ?_; intro v' w2 hown2 hb2 _) | fail)
              go_roundw
              case rel => exact ⟨k + 1, out ++ [c], hlt, by go_num, hown2, by simp; omega, hb.trans hb2, hnx⟩
              case measure => simp [intOf]; omega
            · have a1 : (48 : Int) ≤ (s[k].toNat : Int) := by omega
              have a2 : ¬ (s[k].toNat : Int) ≤ 57 := by omega
              have a3 : ¬ (97 : Int) ≤ (s[k].toNat : Int) := by omega
              have a4 : (65 : Int) ≤ (s[k].toNat : Int) := by omega
              have a5 : ¬ (s[k].toNat : Int) ≤ 90 := by omega
              clear h hrange
              have e33 : ((s[k].toNat : Int) == 33) = false := beq_eq_false_iff_ne.2 (by omega)
              have e42 : ((s[k].toNat : Int) == 42) = false := beq_eq_false_iff_ne.2 (by omega)
              have e43 : ((s[k].toNat : Int) == 43) = false := beq_eq_false_iff_ne.2 (by omega)
              have e45 : ((s[k].toNat : Int) == 45) = false := beq_eq_false_iff_ne.2 (by omega)
              have e47 : ((s[k].toNat : Int) == 47) = false := beq_eq_false_iff_ne.2 (by omega)
              go_wp2_with (first | (at_builtin; refine wpList_append_byte rfl _ _ rfl _ _ out c _ wr _ rfl hown rfl (by omega) hBw hcc.out ?_; intro v' w2 hown2 hb2 _) | fail)
              go_roundw
              case rel => exact ⟨k + 1, out ++ [c], hlt, by go_num, hown2, by simp; omega, hb.trans hb2, hnx⟩
              case measure => simp [intOf]; omega
            · have a1 : (48 : Int) ≤ (s[k].toNat : Int) := by omega
              have a2 : ¬ (s[k].toNat : Int) ≤ 57 := by omega
              have a3 : (97 : Int) ≤ (s[k].toNat : Int) := by omega
              have a4 : (s[k].toNat : Int) ≤ 122 := by omega
              clear h hrange
              go_wp2_with (first | (at_builtin; refine wpList_append_byte rfl _ _ rfl _ _ out c _ wr _ rfl hown rfl (by omega) hBw hcc.out ?_; intro v' w2 hown2 hb2 _) | fail)
              go_roundw
              case rel => exact ⟨k + 1, out ++ [c], hlt, by go_num, hown2, by simp; omega, hb.trans hb2, hnx⟩
              case measure => simp [intOf]; omega
            · have a1 : (48 : Int) ≤ (s[k].toNat : Int) := by omega
              have a2 : ¬ (s[k].toNat : Int) ≤ 57 := by omega
              have a3 : (97 : Int) ≤ (s[k].toNat : Int) := by omega
              have a4 : ¬ (s[k].toNat : Int) ≤ 122 := by omega
              have a5 : (65 : Int) ≤ (s[k].toNat : Int) := by omega
              have a6 : ¬ (s[k].toNat : Int) ≤ 90 := by omega
              clear h hrange
              have e33 : ((s[k].toNat : Int) == 33) = false := beq_eq_false_iff_ne.2 (by omega)
              have e42 : ((s[k].toNat : Int) == 42) = false := beq_eq_false_iff_ne.2 (by omega)
              have e43 : ((s[k].toNat : Int) == 43) = false := beq_eq_false_iff_ne.2 (by omega)
              have e45 : ((s[k].toNat : Int) == 45) = false := beq_eq_false_iff_ne.2 (by omega)
              have e47 : ((s[k].toNat : Int) == 47) = false := beq_eq_false_iff_ne.2 (by omega)
              go_wp2_with (first | (at_builtin; refine wpList_append_byte rfl _ _ rfl _ _ out c _ wr _ rfl hown rfl (by omega) hBw hcc.out ?_; intro v' w2 hown2 hb2 _) | fail)
              go_roundw
              case rel => exact ⟨k + 1, out ++ [c], hlt, by go_num, hown2, by simp; omega, hb.trans hb2, hnx⟩
              case measure => simp [intOf]; omega
          | false =>
            have hno := hidF (show unqL s.data.toList = none by rw [hst', unqL_other _ _ h95 h61 hok]; rfl)
            have hrange : s[k].toNat ≤ 32 ∨ 127 ≤ s[k].toNat := by
              have := hok
              simp [okQ] at this
              omega
            clear hst' hst hd hok h95 h61 hc hcn hcl
            have e33 : ((s[k].toNat : Int) == 33) = false := beq_eq_false_iff_ne.2 (by omega)
            have e42 : ((s[k].toNat : Int) == 42) = false := beq_eq_false_iff_ne.2 (by omega)
            have e43 : ((s[k].toNat : Int) == 43) = false := beq_eq_false_iff_ne.2 (by omega)
            have e45 : ((s[k].toNat : Int) == 45) = false := beq_eq_false_iff_ne.2 (by omega)
            have e47 : ((s[k].toNat : Int) == 47) = false := beq_eq_false_iff_ne.2 (by omega)
            rcases hrange with h | h
            · have a1 : ¬ (48 : Int) ≤ (s[k].toNat : Int) := by omega
              have a2 : ¬ (97 : Int) ≤ (s[k].toNat : Int) := by omega
              have a3 : ¬ (65 : Int) ≤ (s[k].toNat : Int) := by omega
              have a4 : ¬ (32 : Int) < (s[k].toNat : Int) := by omega
              clear h
              go_wp2_with fail
              go_ret2
              exact ⟨hb, .inr ⟨hno.out, rfl⟩⟩
            · have a1 : (48 : Int) ≤ (s[k].toNat : Int) := by omega
              have a2 : ¬ (s[k].toNat : Int) ≤ 57 := by omega
              have a3 : (97 : Int) ≤ (s[k].toNat : Int) := by omega
              have a4 : ¬ (s[k].toNat : Int) ≤ 122 := by omega
              have a5 : (65 : Int) ≤ (s[k].toNat : Int) := by omega
              have a6 : ¬ (s[k].toNat : Int) ≤ 90 := by omega
              have a7 : (32 : Int) < (s[k].toNat : Int) := by omega
              have a8 : ¬ (s[k].toNat : Int) < 127 := by omega
              clear h
              go_wp2_with fail
              go_ret2
              exact ⟨hb, .inr ⟨hno.out, rfl⟩⟩
    · have hz : ¬ (k : Int) < (s.size : Int) := by omega
      have hyes := hidF (show unqL s.data.toList = some out by rw [hst.out, drop_end s k hlt, unqL_nil]; simp)
      go_wp2_with fail
      go_ret2
      exact ⟨hb, .inl ⟨_, out, hyes.out, rfl, hown⟩⟩
end Go.Proofs.YtbpoecfbcmdeeaaDoor
