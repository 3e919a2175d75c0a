/- base64's Decode at a text that the reference takes: the walk. -/
import Derived.Test.YtbpoecfbcmdeeaaDoorGroups
import Derived.Outline
namespace Go.Proofs.YtbpoecfbcmdeeaaDoor
open Go.RowKit

set_option maxHeartbeats 4000000 in
set_option maxRecDepth 100000 in
theorem decode64_any (b g sg G scap : Nat) (s l : List UInt8) (w : World) (he : EncAt w b) (hgb : g ≠ b) (hsg : sg ≠ g) (hl : unbL s = some l) (hG : s.length = 4 * G) (hG1 : 1 ≤ G) (hsz : s.length ≤ 100000) (hcap : s.length ≤ scap)
    (hsrc : ∀ j c, s[j]? = some c → w.cell? ⟨sg, j, none⟩ = some (.int .u8 (c.toNat : Int))) (L0 : List UInt8) (hL0 : Row w g L0) (hl0 : L0.length = 3 * G) :
    Calls Tryd.prog 64 #[.pointer (some ⟨b, 0, none⟩), .slice (some ⟨g, 0, none⟩) (3 * G) (3 * G), .slice (some ⟨sg, 0, none⟩) s.length scap] w fun e w' => e = .returned (.tuple #[.int .i64 (l.length : Nat), .nilIface]) ∧ w.grownBy w' (some g) ∧ ∃ L, Row w' g L ∧ L.take l.length = l := by
  obtain ⟨n, hn⟩ : ∃ n, n = s.length := ⟨_, rfl⟩
  obtain ⟨D, hD⟩ : ∃ D, D = 3 * G := ⟨_, rfl⟩
  rw [← hn, ← hD]
  rw [← hn] at hsz hcap
  have z0 : ((n : Int) == 0) = false := beq_eq_false_iff_ne.2 (by omega)
  have Hn := hidF hn
  have HD := hidF hD
  have HG := hidF hG
  have Hsrc := hidF hsrc
  have HE := hidF he
  have hbg : b ≠ g := fun e => hgb e.symm
  have hst : Hid (At64 w w g D 0 s l []) := hidF ⟨⟨L0, hL0, by omega, by simp⟩, ⟨l, by simpa using hl, rfl⟩, rfl, grown_refl _ _⟩
  have hin : D ≤ 75000 := by omega
  have hst1 : 0 + 3 ≤ D ∧ 0 + 4 ≤ n := by omega
  clear hn hD hG hl hsrc he hL0 hl0 hG1
  go_enter Tryd.func64, Tryd.ntmps64
  go_wp2_with (refine wpList_load_at rfl 31 (.tmp 23) rfl b 64 rfl (dmapL 64) _ (encAt_dmap HE.out) Tryd.underlying31 rfl dmapLen ?_; intro v31)
  go_loopw [6, 7, 8] (fun nv ev sv wr => ∃ (i q m : Nat) (out : List UInt8), ev = .nilIface ∧ nv = .int .i64 (q : Nat) ∧ sv = .int .i64 (m : Nat) ∧ (q + 3 ≤ D ∧ m + 4 ≤ n) ∧ Hid (q = 3 * i ∧ m = 4 * i ∧ At64 w wr g D i s l out)) (fun _ _ sv _ => n - (intOf sv).toNat)
  case atStart => exact ⟨0, 0, 0, [], rfl, rfl, rfl, hst1, hidF ⟨rfl, rfl, hst.out⟩⟩
  case round =>
    clear hst hst1
    obtain ⟨i, q, m, out, rfl, rfl, rfl, ⟨hqD, hmn⟩, hat⟩ := hrel
    by_cases h3 : q + 8 ≤ D
    · have hm12 : m + 12 ≤ n ∧ q + 9 ≤ D := by
        have := hat.out; have := HD.out; have := HG.out; have := Hn.out; omega
      have a1 : (8 : Int) ≤ (n : Int) - (m : Int) := by omega
      have a2 : (8 : Int) ≤ (D : Int) - (q : Int) := by omega
      obtain ⟨hq, hm, HA⟩ := hat.out
      have hgw := HA.grown
      obtain ⟨l2, hl2, hle⟩ := HA.rest
      have htl : (s.drop (4 * i)).length = n - m := by rw [List.length_drop, ← Hn.out, hm]
      obtain ⟨c0, c1, c2, c3, a0, a1', a2', a3, l3, e0, e1, e2, e3, b0, b1, b2, b3, hr3, hl3⟩ := one_group _ _ hl2 (by omega)
      obtain ⟨c4, c5, c6, c7, a4, a5, a6, a7, l4, e4, e5, e6, e7, b4, b5, b6, b7, hr4, hl4⟩ := one_group _ _ hr3 (by rw [List.length_drop]; omega)
      have HNX : ∀ wr2, Puts wr wr2 g q ((three (num4 a0 a1' a2' a3) ++ three (num4 a4 a5 a6 a7)) ++ [0, 0]) → At64 w wr2 g D (i + 2) s l (out ++ (three (num4 a0 a1' a2' a3) ++ three (num4 a4 a5 a6 a7))) := by
        intro wr2 hp
        rw [hq] at hp
        refine HA.more (j := 2) (l3 := l4) hp rfl (by simp [three_len]; omega) ?_ ?_
        · rw [show 4 * (i + 2) = 4 * i + 4 + 4 by omega, ← hr4, List.drop_drop, List.drop_drop]
        · rw [hle, hl3, hl4, List.append_assoc]
      have HENX := hidF HNX
      clear HNX
      have hE2 := grown_enc hgw hbg HE.out
      have cell (j : Nat) (c : UInt8) (h : (s.drop (4 * i))[j]? = some c) : wr.cell? ⟨sg, m + j, none⟩ = some (.int .u8 (c.toNat : Int)) := by
        rw [List.getElem?_drop, ← hm] at h
        exact grown_cell hgw hsg (Hsrc.out _ _ h)
      have s0 := cell 0 c0 e0
      have s1 := cell 1 c1 e1
      have s2 := cell 2 c2 e2
      have s3 := cell 3 c3 e3
      rw [List.getElem?_drop] at e4 e5 e6 e7
      have s4 := cell 4 c4 e4
      have s5 := cell 5 c5 e5
      have s6 := cell 6 c6 e6
      have s7 := cell 7 c7 e7
      rw [Nat.add_zero] at s0
      have d0 := encAt_some hE2 c0 _ b0
      have d1 := encAt_some hE2 c1 _ b1
      have d2 := encAt_some hE2 c2 _ b2
      have d3 := encAt_some hE2 c3 _ b3
      have d4 := encAt_some hE2 c4 _ b4
      have d5 := encAt_some hE2 c5 _ b5
      have d6 := encAt_some hE2 c6 _ b6
      have d7 := encAt_some hE2 c7 _ b7
      have k0 : (c0.toNat : Int) < 256 := by have := c0.toNat_lt; omega
      have k1 : (c1.toNat : Int) < 256 := by have := c1.toNat_lt; omega
      have k2 : (c2.toNat : Int) < 256 := by have := c2.toNat_lt; omega
      have k3 : (c3.toNat : Int) < 256 := by have := c3.toNat_lt; omega
      have k4 : (c4.toNat : Int) < 256 := by have := c4.toNat_lt; omega
      have k5 : (c5.toNat : Int) < 256 := by have := c5.toNat_lt; omega
      have k6 : (c6.toNat : Int) < 256 := by have := c6.toNat_lt; omega
      have k7 : (c7.toNat : Int) < 256 := by have := c7.toNat_lt; omega
      have hcall := hidF (fun W => asm64_any a0 a1' a2' a3 a4 a5 a6 a7 (b64V_lt _ _ b0) (b64V_lt _ _ b1) (b64V_lt _ _ b2) (b64V_lt _ _ b3) (b64V_lt _ _ b4) (b64V_lt _ _ b5) (b64V_lt _ _ b6) (b64V_lt _ _ b7) W)
      obtain ⟨X, hX⟩ : ∃ X, X = num4 a0 a1' a2' a3 := ⟨_, rfl⟩
      obtain ⟨Y, hY⟩ : ∃ Y, Y = num4 a4 a5 a6 a7 := ⟨_, rfl⟩
      have hXl := hidF (hX ▸ num4_lt a0 a1' a2' a3 (b64V_lt _ _ b0) (b64V_lt _ _ b1) (b64V_lt _ _ b2) (b64V_lt _ _ b3) : X < 16777216)
      have hYl := hidF (hY ▸ num4_lt a4 a5 a6 a7 (b64V_lt _ _ b4) (b64V_lt _ _ b5) (b64V_lt _ _ b6) (b64V_lt _ _ b7) : Y < 16777216)
      rw [← hX, ← hY] at hcall HENX
      obtain ⟨V, hV⟩ : ∃ V : Int, V = (((X * 16777216 + Y) * 65536 : Nat) : Int) := ⟨_, rfl⟩
      have hV0 : 0 ≤ V := by omega
      have HV := hidF hV
      rw [← hV] at hcall
      clear cell hX hY hV e0 e1 e2 e3 e4 e5 e6 e7 b0 b1 b2 b3 b4 b5 b6 b7 hr3 hl3 hr4 hl4 htl hl2 hle hE2
      have HQ := hidF hq
      have HM := hidF hm
      have HA2 := hidF HA
      clear hq hm HA hat
      go_wp2_with fail
      rw [show m + 8 - m = 8 by omega]
      simp only [List.append_eq, List.cons_append, List.nil_append]
      go_quiet ((go_at_call 75; exact Calls.quiet_of_same ((hcall.out _).mono fun e w' h => ⟨h.1, h.2.symm⟩)))
      obtain ⟨L, hL, hLl, hLt⟩ := HA2.out.row
      have hput := hidF (put64_row g q (D - q) (D - q) X Y V (wr.drewN nq) L (hL.same rfl) (by omega) (by omega) hXl.out hYl.out HV.out)
      clear hL hLl hLt
      go_wp2_with fail
      refine hput.out.mono ?_
      rintro e w1 ⟨rfl, hp⟩
      have HP := hidF (HENX.out w1 hp.drewN)
      clear hp hput HENX s0 s1 s2 s3 s4 s5 s6 s7 d0 d1 d2 d3 d4 d5 d6 d7
      go_wp2_with fail
      go_roundw
      case rel => exact ⟨i + 2, q + 6, m + 8, _, rfl, by go_num, by go_num, ⟨by omega, by omega⟩, hidF ⟨by have := HQ.out; omega, by have := HM.out; omega, HP.out⟩⟩
      case measure => simp [intOf]; omega
    · have a1 : ¬ ((8 : Int) ≤ (D : Int) - (q : Int)) := by omega
      have hq6 := hidF (show q = 3 * i ∧ m = 4 * i ∧ At64 w wr g D i s l out from hat.out)
      by_cases h8 : m + 8 ≤ n
      all_goals
        first | (have a0 : (8 : Int) ≤ (n : Int) - (m : Int) := by omega) | (have a0 : ¬ ((8 : Int) ≤ (n : Int) - (m : Int)) := by omega)
        go_wp2_with fail
        clear a0 a1
        go_loopw [6, 7, 8] (fun nv ev sv wr => ∃ (i q m : Nat) (out : List UInt8), ev = .nilIface ∧ nv = .int .i64 (q : Nat) ∧ sv = .int .i64 (m : Nat) ∧ (q + 3 ≤ D ∧ m + 4 ≤ n) ∧ Hid (q = 3 * i ∧ m = 4 * i ∧ At64 w wr g D i s l out)) (fun _ _ sv _ => n - (intOf sv).toNat)
        case atStart => exact ⟨i, q, m, out, rfl, rfl, rfl, ⟨hqD, hmn⟩, hq6⟩
        case round =>
          clear hq6 hat h3 hqD hmn h8
          obtain ⟨i, q, m, out, rfl, rfl, rfl, ⟨hqD, hmn⟩, hat⟩ := hrel
          by_cases h4 : q + 4 ≤ D
          · have hm8 : m + 8 ≤ n ∧ q + 6 ≤ D := by
              have := hat.out; have := HD.out; have := HG.out; have := Hn.out; omega
            have a1 : (4 : Int) ≤ (n : Int) - (m : Int) := by omega
            have a2 : (4 : Int) ≤ (D : Int) - (q : Int) := by omega
            obtain ⟨hq, hm, HA⟩ := hat.out
            have hgw := HA.grown
            obtain ⟨l2, hl2, hle⟩ := HA.rest
            have htl : (s.drop (4 * i)).length = n - m := by rw [List.length_drop, ← Hn.out, hm]
            obtain ⟨c0, c1, c2, c3, a0, a1', a2', a3, l3, e0, e1, e2, e3, b0, b1, b2, b3, hr3, hl3⟩ := one_group _ _ hl2 (by omega)
            have HNX : ∀ wr2, Puts wr wr2 g q (three (num4 a0 a1' a2' a3) ++ [0]) → At64 w wr2 g D (i + 1) s l (out ++ three (num4 a0 a1' a2' a3)) := by
              intro wr2 hp
              rw [hq] at hp
              refine HA.more (j := 1) (l3 := l3) hp rfl (by simp [three_len]; omega) ?_ ?_
              · rw [show 4 * (i + 1) = 4 * i + 4 by omega, ← hr3, List.drop_drop]
              · rw [hle, hl3]
            have HENX := hidF HNX
            clear HNX
            have hE2 := grown_enc hgw hbg HE.out
            have cell (j : Nat) (c : UInt8) (h : (s.drop (4 * i))[j]? = some c) : wr.cell? ⟨sg, m + j, none⟩ = some (.int .u8 (c.toNat : Int)) := by
              rw [List.getElem?_drop, ← hm] at h
              exact grown_cell hgw hsg (Hsrc.out _ _ h)
            have s0 := cell 0 c0 e0
            have s1 := cell 1 c1 e1
            have s2 := cell 2 c2 e2
            have s3 := cell 3 c3 e3
            rw [Nat.add_zero] at s0
            have d0 := encAt_some hE2 c0 _ b0
            have d1 := encAt_some hE2 c1 _ b1
            have d2 := encAt_some hE2 c2 _ b2
            have d3 := encAt_some hE2 c3 _ b3
            have k0 : (c0.toNat : Int) < 256 := by have := c0.toNat_lt; omega
            have k1 : (c1.toNat : Int) < 256 := by have := c1.toNat_lt; omega
            have k2 : (c2.toNat : Int) < 256 := by have := c2.toNat_lt; omega
            have k3 : (c3.toNat : Int) < 256 := by have := c3.toNat_lt; omega
            have hcall := hidF (fun W => asm32_any a0 a1' a2' a3 (b64V_lt _ _ b0) (b64V_lt _ _ b1) (b64V_lt _ _ b2) (b64V_lt _ _ b3) W)
            obtain ⟨X, hX⟩ : ∃ X, X = num4 a0 a1' a2' a3 := ⟨_, rfl⟩
            have hXl := hidF (hX ▸ num4_lt a0 a1' a2' a3 (b64V_lt _ _ b0) (b64V_lt _ _ b1) (b64V_lt _ _ b2) (b64V_lt _ _ b3) : X < 16777216)
            rw [← hX] at hcall HENX
            obtain ⟨V, hV⟩ : ∃ V : Int, V = ((X * 256 : Nat) : Int) := ⟨_, rfl⟩
            have hV0 : 0 ≤ V := by omega
            have HV := hidF hV
            rw [← hV] at hcall
            clear cell hX hV e0 e1 e2 e3 b0 b1 b2 b3 hr3 hl3 htl hl2 hle hE2
            have HQ := hidF hq
            have HM := hidF hm
            have HA2 := hidF HA
            clear hq hm HA hat
            go_wp2_with fail
            rw [show m + 4 - m = 4 by omega]
            go_quiet ((go_at_call 78; exact Calls.quiet_of_same ((hcall.out _).mono fun e w' h => ⟨h.1, h.2.symm⟩)))
            obtain ⟨L, hL, hLl, hLt⟩ := HA2.out.row
            have hput := hidF (put32_row g q (D - q) (D - q) X V (wr.drewN nq) L (hL.same rfl) (by omega) (by omega) hXl.out HV.out)
            clear hL hLl hLt
            go_wp2_with fail
            refine hput.out.mono ?_
            rintro e w1 ⟨rfl, hp⟩
            have HP := hidF (HENX.out w1 hp.drewN)
            clear hp hput HENX s0 s1 s2 s3 d0 d1 d2 d3
            go_wp2_with fail
            go_roundw
            case rel => exact ⟨i + 1, q + 3, m + 4, _, rfl, by go_num, by go_num, ⟨by omega, by omega⟩, hidF ⟨by have := HQ.out; omega, by have := HM.out; omega, HP.out⟩⟩
            case measure => simp [intOf]; omega
          · have a1 : ¬ ((4 : Int) ≤ (D : Int) - (q : Int)) := by omega
            have hmx : n = m + 4 ∧ q + 3 = D := by
              have := hat.out; have := HD.out; have := HG.out; have := Hn.out; omega
            obtain ⟨hmx, hqx⟩ := hmx
            have a0 : (4 : Int) ≤ (n : Int) - (m : Int) := by omega
            have hqx2 := hidF hqx
            clear hqx
            obtain ⟨hq, hm, HA⟩ := hat.out
            have hgw := HA.grown
            obtain ⟨l2, hl2, hle⟩ := HA.rest
            have htl : (s.drop (4 * i)).length = 4 := by rw [List.length_drop, ← Hn.out, ← hm, hmx]; omega
            obtain ⟨c0, c1, c2, c3, e0, e1, e2, e3, hquad⟩ := last_group _ _ hl2 htl
            have hE2 := grown_enc hgw hbg HE.out
            have cell (j : Nat) (c : UInt8) (h : (s.drop (4 * i))[j]? = some c) : wr.cell? ⟨sg, m + j, none⟩ = some (.int .u8 (c.toNat : Int)) := by
              rw [List.getElem?_drop, ← hm] at h
              exact grown_cell hgw hsg (Hsrc.out _ _ h)
            have s0 := cell 0 c0 e0
            have s1 := cell 1 c1 e1
            have s2 := cell 2 c2 e2
            have s3 := cell 3 c3 e3
            rw [Nat.add_zero] at s0
            obtain ⟨L, hL, hLl, hLt⟩ := HA.row
            have hcall := hidF (quant_any b g q (D - q) (D - q) sg m scap c0 c1 c2 c3 l2 wr hE2 hgb hquad (by omega) (by have := hqx2.out; omega) s0 s1 s2 s3 L hL (by rw [hLl]; have := hqx2.out; omega))
            have hfin := hidF (show ∀ w1, Puts wr w1 g q l2 → w.grownBy w1 (some g) ∧ ∃ L, Row w1 g L ∧ L.take l.length = l by
              intro w1 hp
              have hlen2 : l2.length ≤ 3 := by
                obtain ⟨_, _, _, _, ⟨_, _, _, _, h⟩ | ⟨_, _, _, _, h⟩ | ⟨_, _, _, h⟩⟩ := quadL_forms _ _ _ _ _ _ hquad <;> rw [h] <;> simp [three_len]
              refine ⟨grown_trans hgw hp.2, splice L q l2, hp.1 L hL (by rw [hLl]; have := hqx2.out; omega), ?_⟩
              have h := take_splice L l2 [] q (by rw [hLl]; simp; have := hqx2.out; omega)
              rw [List.append_nil] at h
              rw [hle, List.length_append, HA.len, ← hq, h, hq, hLt])
            have hll := hidF (show l.length = q + l2.length by rw [hle, List.length_append, HA.len, ← hq])
            obtain ⟨t, ht⟩ : ∃ t, t = l2.length := ⟨_, rfl⟩
            rw [← ht] at hcall hll
            have hqx3 : q + 3 ≤ D := hqD
            have ht3 : t ≤ 3 := by
              obtain ⟨_, _, _, _, ⟨_, _, _, _, h⟩ | ⟨_, _, _, _, h⟩ | ⟨_, _, _, h⟩⟩ := quadL_forms _ _ _ _ _ _ hquad <;> rw [ht, h] <;> simp [three_len]
            clear cell ht e0 e1 e2 e3 hquad htl hl2 hle hE2 hL hLl hLt s0 s1 s2 s3 HA hat hq hm hgw
            subst hmx
            go_wp2_with fail
            clear a0 a1
            refine wp_loop_rounds 2 ?_
            rw [rounds_succ]
            go_wp2_with fail
            refine hcall.out.mono ?_
            rintro e w1 ⟨rfl, hp⟩
            have HF := hidF (hfin.out w1 hp)
            clear hp hcall hfin
            go_wp2_with fail
            rw [rounds_succ]
            go_wp2_with fail
            go_ret2
            exact ⟨by rw [hll.out]; rfl, HF.out⟩
end Go.Proofs.YtbpoecfbcmdeeaaDoor
