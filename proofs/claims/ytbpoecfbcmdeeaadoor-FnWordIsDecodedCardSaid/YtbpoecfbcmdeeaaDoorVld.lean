/- utf8.word and utf8.Valid over slices of bytes: the walks. (After the shelf's proof of utf8.ValidString.) -/
import Derived.Test.YtbpoecfbcmdeeaaDoorBytes
import Derived.Test.YtbpoecfbcmdeeaaDoorShelf
import Derived.Shelf.Unicode.ValidAny
import Derived.Shelf.Unicode.WordAny
import Derived.Lib.ValidAsc
import Derived.Laws.BitsAllLaws
import Derived.Deep.LoopGhost
import Derived.Deep.QuietTactic
import Derived.BigQuiet
import Derived.Deep.CutBlock
import Derived.Deep.DeepCutAuto
import Derived.Outline
namespace Go.Proofs.YtbpoecfbcmdeeaaDoor
open Go.RowKit Go.Lib

set_option maxHeartbeats 4000000 in
set_option maxRecDepth 100000 in
theorem word_any (g o n m : Nat) (x0 x1 x2 x3 x4 x5 x6 x7 : UInt8) (w : World) (hn : 8 ≤ n)
    (c0 : w.cell? ⟨g, o, none⟩ = some (.int .u8 (x0.toNat : Int)))
    (c1 : w.cell? ⟨g, o + 1, none⟩ = some (.int .u8 (x1.toNat : Int)))
    (c2 : w.cell? ⟨g, o + 2, none⟩ = some (.int .u8 (x2.toNat : Int)))
    (c3 : w.cell? ⟨g, o + 3, none⟩ = some (.int .u8 (x3.toNat : Int)))
    (c4 : w.cell? ⟨g, o + 4, none⟩ = some (.int .u8 (x4.toNat : Int)))
    (c5 : w.cell? ⟨g, o + 5, none⟩ = some (.int .u8 (x5.toNat : Int)))
    (c6 : w.cell? ⟨g, o + 6, none⟩ = some (.int .u8 (x6.toNat : Int)))
    (c7 : w.cell? ⟨g, o + 7, none⟩ = some (.int .u8 (x7.toNat : Int))) :
    Calls Tryd.prog 25 #[.slice (some ⟨g, o, none⟩) n m] w fun e w' => e = .returned (.int .u64 ((Lib.leNat [x0, x1, x2, x3, x4, x5, x6, x7] : Nat) : Int)) ∧ ∃ q, w' = w.drewN q := by
  have h0 : x0.toNat < 256 := x0.toNat_lt
  have h1 : x1.toNat < 256 := x1.toNat_lt
  have h2 : x2.toNat < 256 := x2.toNat_lt
  have h3 : x3.toNat < 256 := x3.toNat_lt
  have h4 : x4.toNat < 256 := x4.toNat_lt
  have h5 : x5.toNat < 256 := x5.toNat_lt
  have h6 : x6.toNat < 256 := x6.toNat_lt
  have h7 : x7.toNat < 256 := x7.toNat_lt
  have hv : ((Lib.leNat [x0, x1, x2, x3, x4, x5, x6, x7] : Nat) : Int) = (x0.toNat : Int) + (x1.toNat : Int) * 256 + (x2.toNat : Int) * 65536 + (x3.toNat : Int) * 16777216 + (x4.toNat : Int) * 4294967296 + (x5.toNat : Int) * 1099511627776 + (x6.toNat : Int) * 281474976710656 + (x7.toNat : Int) * 72057594037927936 := by
    simp only [Lib.leNat]
    push_cast
    omega
  have Hv := hidF hv
  clear hv
  have q0 : (0 : Int) < (n : Int) := by omega
  have q1 : (1 : Int) < (n : Int) := by omega
  have q2 : (2 : Int) < (n : Int) := by omega
  have q3 : (3 : Int) < (n : Int) := by omega
  have q4 : (4 : Int) < (n : Int) := by omega
  have q5 : (5 : Int) < (n : Int) := by omega
  have q6 : (6 : Int) < (n : Int) := by omega
  have q7 : (7 : Int) < (n : Int) := by omega
  go_enter Tryd.func25, Tryd.ntmps25
  go_wp2_with fail
  go_quiet (fail)
  go_wp2_with fail
  go_ret
  refine ⟨?_, _, rfl⟩
  rw [Hv.out]
  simp (disch := omega) only [u64_or8, u64_or16, u64_or24, u64_or32, u64_or40, u64_or48, u64_or56]
  rfl

theorem utf8_below {w w' : World} (h : Lib.Utf8Tabs 0 1 w) (hb : Below w.heap.size w w') : Lib.Utf8Tabs 0 1 w' := Utf8Tabs_below h hb

/-- The cells behind ⟨g, o⟩ are the bytes of t. -/
def SB (g o : Nat) (t : ByteArray) (w : World) : Prop := ∀ j (h : j < t.size), w.cell? ⟨g, o + j, none⟩ = some (.int .u8 ((t[j]'h).toNat : Int))
theorem SB.ext {g o : Nat} {t : ByteArray} {w : World} (h : SB g o t w) (k : Nat) : SB g (o + k) (t.extract k t.size) w := by
  intro j hj
  have hj' : k + j < t.size := by rw [Lib.ext_size] at hj; omega
  have := h (k + j) hj'
  rw [show o + k + j = o + (k + j) by omega, this]
  congr 3
  have e1 := get_of t (k + j) hj'
  have e2 := get_of (t.extract k t.size) j hj
  rw [Lib.ext_list, List.getElem?_drop, e1] at e2
  exact (Option.some.inj e2).symm ▸ rfl
theorem SB.below {g o B : Nat} {t : ByteArray} {w w' : World} (h : SB g o t w) (hb : Below B w w') (hg : g < B) : SB g o t w' := fun j hj => (hb.cell (p := ⟨g, o + j, none⟩) hg).trans (h j hj)
theorem SB.at {g o : Nat} {t : ByteArray} {w : World} (h : SB g o t w) (j : Nat) (hj : j < t.size) : w.cell? ⟨g, o + j, none⟩ = some (.int .u8 ((t.get! j).toNat : Int)) := by
  rw [h j hj, Utf8W.get!_of_lt t j hj]
theorem SB.word {g o m : Nat} {t : ByteArray} {w : World} (h : SB g o t w) (h8 : 8 ≤ t.size) :
    Calls Tryd.prog 25 #[.slice (some ⟨g, o, none⟩) t.size m] w fun e w' => e = .returned (.int .u64 ((Lib.leNat [t.get! 0, t.get! 1, t.get! 2, t.get! 3, t.get! 4, t.get! 5, t.get! 6, t.get! 7] : Nat) : Int)) ∧ ∃ q, w' = w.drewN q :=
  word_any g o t.size m _ _ _ _ _ _ _ _ w h8 (h.at 0 (by omega)) (h.at 1 (by omega)) (h.at 2 (by omega)) (h.at 3 (by omega)) (h.at 4 (by omega)) (h.at 5 (by omega)) (h.at 6 (by omega)) (h.at 7 (by omega))

theorem SB.via {g o B : Nat} {t : ByteArray} {w a b : World} (h : SB g o t a) (ha : Below B w a) (hb : Below B w b) (hg : g < B) : SB g o t b := fun j hj => ((hb.cell (p := ⟨g, o + j, none⟩) hg).trans (ha.cell (p := ⟨g, o + j, none⟩) hg).symm).trans (h j hj)

set_option maxHeartbeats 16000000 in
set_option maxRecDepth 1000000 in
theorem valid_row (g cap : Nat) (s : ByteArray) (w : World) (hs : s.size ≤ 1000000000) (hcap : s.size ≤ cap) (_hcap2 : cap ≤ maxLen) (hg : g < w.heap.size) (hc : SB g 0 s w) (hT : Lib.Utf8Tabs 0 1 w) :
    Calls Tryd.prog 19 #[.slice (some ⟨g, 0, none⟩) s.size cap] w fun e w' => e = .returned (.bool (Lib.validD s.data.toList)) ∧ Below w.heap.size w w' := by
  obtain ⟨ANS, hANS⟩ : ∃ ANS, Lib.validD s.data.toList = ANS := ⟨_, rfl⟩
  rw [hANS]
  unfold maxLen at _hcap2
  have hcz : (s.size : Int) ≤ (cap : Int) := by omega
  go_enter Tryd.func19, Tryd.ntmps19
  go_wp2_with fail
  go_loopg [0] (s.size + 1) (fun gk s0 wx => Below w.heap.size w wx ∧ ∃ (t : ByteArray) (o : Nat), s0 = .slice (some ⟨g, o, none⟩) t.size t.size ∧ SB g o t wx ∧ Lib.validD t.data.toList = ANS ∧ t.size < gk ∧ t.size ≤ 1000000000)
  case atStart => exact ⟨Below.refl _ _, s, 0, rfl, hc, hANS, by omega, hs⟩
  case round =>
    obtain ⟨hbw, t, o, rfl, hsb, hv, hgk, hts⟩ := hrel
    clear hANS
    have hTr := utf8_below hT hbw
    by_cases h0 : 0 < t.size
    · obtain ⟨g', rfl⟩ : ∃ g', gk = g' + 1 := ⟨gk - 1, by omega⟩
      have h0z : (0 : Int) < (t.size : Int) := by omega
      obtain ⟨x0, hx0⟩ : ∃ x0, t.get! 0 = x0 := ⟨_, rfl⟩
      have hs0 := hsb.at 0 h0
      rw [hx0, Nat.add_zero] at hs0
      have hx0lt : x0.toNat < 256 := x0.toNat_lt
      by_cases hasc : x0.toNat < 128
      · as_aux_lemma =>
        have hascz : (x0.toNat : Int) < 128 := by omega
        have a1 : Lib.Asc t 1 := Lib.asc_one t h0 (by rw [hx0]; exact hasc)
        obtain ⟨t1, ht1⟩ : ∃ t1, t.extract 1 t.size = t1 := ⟨_, rfl⟩
        have z1 : t1.size + 1 = t.size := by rw [← ht1, Lib.ext_size]; omega
        have v1 : Lib.validD t1.data.toList = ANS := by rw [← ht1, Lib.valid_skip t 1 a1]; exact hv
        have sb1 : SB g (o + 1) t1 wr := by rw [← ht1]; exact hsb.ext 1
        clear hTr hT hv a1
        have et1 : t.size - 1 = t1.size := by omega
        have hgw : g < wr.heap.size := Nat.lt_of_lt_of_le hg hbw.size
        by_cases c8 : 8 < t1.size
        · have c8z : (8 : Int) < (t1.size : Int) := by omega
          obtain ⟨A1, hA1⟩ : ∃ A, Lib.leNat [t1.get! 0, t1.get! 1, t1.get! 2, t1.get! 3, t1.get! 4, t1.get! 5, t1.get! 6, t1.get! 7] = A := ⟨_, rfl⟩
          have lA1 : A1 < 18446744073709551616 := hA1 ▸ Lib.word_lt t1
          have HW1 := hidF (show ∀ (W : World) (m : Nat), SB g (o + 1) t1 W → Calls Tryd.prog 25 #[.slice (some ⟨g, o + 1, none⟩) t1.size m] W fun e w' => e = .returned (.int .u64 (A1 : Int)) ∧ ∃ q, w' = W.drewN q from fun W m h => by rw [← hA1]; exact h.word (by omega))
          have kA1 := Lib.word_asc t1 (by omega)
          rw [hA1] at kA1
          clear hA1
          have hand1 : bits .and .u64 (A1 : Int) 9259542123273814144 = ((A1 &&& 9259542123273814144 : Nat) : Int) := u64_and_nat A1 9259542123273814144 lA1 (by omega)
          obtain ⟨Z1, hZ1⟩ : ∃ Z1, A1 &&& 9259542123273814144 = Z1 := ⟨_, rfl⟩
          rw [hZ1] at hand1 kA1
          clear hZ1 lA1
          have HZ1 := hidF z1
          by_cases hz1 : Z1 = 0
          · have hz1b : ((Z1 : Int) == 0) = true := by simp [hz1]
            have a8 : Lib.Asc t1 8 := kA1.1 hz1
            obtain ⟨t2, ht2⟩ : ∃ t, t1.extract 8 t1.size = t := ⟨_, rfl⟩
            have zt2 : t2.size + 8 = t1.size := by rw [← ht2, Lib.ext_size]; omega
            have et2 : t1.size - 8 = t2.size := by omega
            have sbt2 : SB g (o + 1 + 8) t2 wr := by rw [← ht2]; exact sb1.ext 8
            have v2 : Lib.validD t2.data.toList = ANS := by rw [← ht2, Lib.valid_skip t1 8 a8]; exact v1
            have s8z : (8 : Int) ≤ (t1.size : Int) := by omega
            have n8 : ¬ t1.size = 8 := by omega
            clear kA1 a8 v1 ht2 hz1 z1 ht1
            go_wp2_with fail
            refine (HW1.out _ _ sb1).mono ?_
            rintro e W1 ⟨rfl, q1, rfl⟩
            have hb1 : Below w.heap.size w (wr.drewN q1) := below_drewNv hbw q1
            have sbq : SB g (o + 1 + 8) t2 (wr.drewN q1) := sbt2
            obtain ⟨wq, hwq⟩ : ∃ wq, wq = wr.drewN q1 := ⟨_, rfl⟩
            rw [← hwq] at hb1 sbq ⊢
            clear hwq HW1 hbw sbt2
            go_upto_region 8 with (fail)
            by_cases c16 : 16 < t2.size
            · have c16z : (16 : Int) < (t2.size : Int) := by omega
              have s8y : (8 : Int) ≤ (t2.size : Int) := by omega
              have n8y : ¬ t2.size = 8 := by omega
              obtain ⟨t2b, ht2b⟩ : ∃ t, t2.extract 8 t2.size = t := ⟨_, rfl⟩
              have zt2b : t2b.size + 8 = t2.size := by rw [← ht2b, Lib.ext_size]; omega
              have et2b : t2.size - 8 = t2b.size := by omega
              have sbt2b : SB g (o + 1 + 8 + 8) t2b wq := by rw [← ht2b]; exact sbq.ext 8
              obtain ⟨A2, hA2⟩ : ∃ A, Lib.leNat [t2.get! 0, t2.get! 1, t2.get! 2, t2.get! 3, t2.get! 4, t2.get! 5, t2.get! 6, t2.get! 7] = A := ⟨_, rfl⟩
              have lA2 : A2 < 18446744073709551616 := hA2 ▸ Lib.word_lt t2
              have HW2 := hidF (show ∀ (W : World) (m : Nat), SB g (o + 1 + 8) t2 W → Calls Tryd.prog 25 #[.slice (some ⟨g, o + 1 + 8, none⟩) t2.size m] W fun e w' => e = .returned (.int .u64 (A2 : Int)) ∧ ∃ q, w' = W.drewN q from fun W m h => by rw [← hA2]; exact h.word (by omega))
              have kA2 := Lib.word_asc t2 (by omega)
              rw [hA2] at kA2
              clear hA2
              obtain ⟨A3, hA3⟩ : ∃ A, Lib.leNat [t2b.get! 0, t2b.get! 1, t2b.get! 2, t2b.get! 3, t2b.get! 4, t2b.get! 5, t2b.get! 6, t2b.get! 7] = A := ⟨_, rfl⟩
              have lA3 : A3 < 18446744073709551616 := hA3 ▸ Lib.word_lt t2b
              have HW3 := hidF (show ∀ (W : World) (m : Nat), SB g (o + 1 + 8 + 8) t2b W → Calls Tryd.prog 25 #[.slice (some ⟨g, o + 1 + 8 + 8, none⟩) t2b.size m] W fun e w' => e = .returned (.int .u64 (A3 : Int)) ∧ ∃ q, w' = W.drewN q from fun W m h => by rw [← hA3]; exact h.word (by omega))
              have kA3 := Lib.word_asc t2b (by omega)
              rw [hA3] at kA3
              clear hA3
              have hor2 : bits .or .u64 (A2 : Int) (A3 : Int) = ((A2 ||| A3 : Nat) : Int) := u64_or_nat A2 A3 lA2 lA3
              have lor2 : A2 ||| A3 < 18446744073709551616 := Nat.or_lt_two_pow (n := 64) lA2 lA3
              have hand2 : bits .and .u64 ((A2 ||| A3 : Nat) : Int) 9259542123273814144 = (((A2 ||| A3) &&& 9259542123273814144 : Nat) : Int) := u64_and_nat _ 9259542123273814144 lor2 (by omega)
              have k2 : (A2 ||| A3) &&& 9259542123273814144 = 0 → Lib.Asc t2 16 := fun h0' => by
                obtain ⟨e1, e2⟩ := (Lib.or_mask A2 A3 _).1 h0'
                exact Lib.asc_add t2 8 8 (kA2.1 e1) (by rw [ht2b]; exact kA3.1 e2)
              obtain ⟨O2, hO2⟩ : ∃ O2, A2 ||| A3 = O2 := ⟨_, rfl⟩
              rw [hO2] at hor2 hand2 k2
              obtain ⟨Z2, hZ2⟩ : ∃ Z2, O2 &&& 9259542123273814144 = Z2 := ⟨_, rfl⟩
              rw [hZ2] at hand2 k2
              clear kA2 kA3 lor2 hO2 hZ2 ht2b lA2 lA3
              have K2 := hidF k2
              clear k2
              by_cases hz2 : Z2 = 0
              · have hz2b : ((Z2 : Int) == 0) = true := by simp [hz2]
                have a16 := K2.out hz2
                obtain ⟨t3, ht3⟩ : ∃ t, t2.extract 16 t2.size = t := ⟨_, rfl⟩
                have zt3 : t3.size + 16 = t2.size := by rw [← ht3, Lib.ext_size]; omega
                have et3 : t2.size - 16 = t3.size := by omega
                have sbt3 : SB g (o + 1 + 8 + 16) t3 wq := by rw [← ht3]; exact sbq.ext 16
                have v3 : Lib.validD t3.data.toList = ANS := by rw [← ht3, Lib.valid_skip t2 16 a16]; exact v2
                have n16 : ¬ t2.size = 16 := by omega
                have s16 : (16 : Int) ≤ (t2.size : Int) := by omega
                clear a16 v2 ht3 hz2
                have Hz3 := hidF zt3
                have Hz2b := hidF zt2b
                have Hz2 := hidF zt2
                clear zt3 zt2b zt2
                go_quiet ((first | (go_at_call 25; (with_reducible refine Calls.quiet_of (HW2.out _ _ ?_)); exact sbq) | (go_at_call 25; (with_reducible refine Calls.quiet_of (HW3.out _ _ ?_)); exact sbt2b)))
                have hb2 := below_drewNv hb1 nq
                have sb3 : SB g (o + 1 + 8 + 16) t3 (wq.drewN nq) := sbt3
                obtain ⟨wq2, hwq2⟩ : ∃ w2, w2 = wq.drewN nq := ⟨_, rfl⟩
                rw [← hwq2] at hb2 sb3 ⊢
                clear hwq2 HW2 HW3 hb1 sbt3 sbt2b sbq hand2 hor2 hz2b
                have ht3s : t3.size ≤ t.size := by have := Hz3.out; have := Hz2.out; have := HZ1.out; omega
                have ht3s2 : t3.size < t.size := by have := Hz3.out; have := Hz2.out; have := HZ1.out; omega
                clear et2b et2 et1
                go_wp2_with fail
                go_loopg [0] (t3.size + 1) (fun g2 s0 wx => Below w.heap.size w wx ∧ ∃ (u : ByteArray) (ou : Nat), s0 = .slice (some ⟨g, ou, none⟩) u.size u.size ∧ SB g ou u wx ∧ Lib.validD u.data.toList = ANS ∧ u.size < g2 ∧ u.size ≤ t3.size)
                case atStart => exact ⟨hb2, t3, _, rfl, sb3, v3, by omega, Nat.le_refl _⟩
                case round =>
                  as_aux_lemma =>
                  obtain ⟨hbu, u, ou, rfl, su, vu, hgu, hut⟩ := hrel
                  by_cases c32 : 32 < u.size
                  · obtain ⟨g3, rfl⟩ : ∃ g3, gk = g3 + 1 := ⟨gk - 1, by omega⟩
                    have c32z : (32 : Int) < (u.size : Int) := by omega
                    have s8u : (8 : Int) ≤ (u.size : Int) := by omega
                    have s16u : (16 : Int) ≤ (u.size : Int) := by omega
                    have s24u : (24 : Int) ≤ (u.size : Int) := by omega
                    have n8u : ¬ u.size = 8 := by omega
                    have n16u : ¬ u.size = 16 := by omega
                    have n24u : ¬ u.size = 24 := by omega
                    have n32u : ¬ u.size = 32 := by omega
                    obtain ⟨ub, hub⟩ : ∃ t, u.extract 8 u.size = t := ⟨_, rfl⟩
                    have zub : ub.size + 8 = u.size := by rw [← hub, Lib.ext_size]; omega
                    have eub : u.size - 8 = ub.size := by omega
                    have sbub : SB g (ou + 8) ub wr := by rw [← hub]; exact su.ext 8
                    obtain ⟨uc, huc⟩ : ∃ t, u.extract 16 u.size = t := ⟨_, rfl⟩
                    have zuc : uc.size + 16 = u.size := by rw [← huc, Lib.ext_size]; omega
                    have euc : u.size - 16 = uc.size := by omega
                    have sbuc : SB g (ou + 16) uc wr := by rw [← huc]; exact su.ext 16
                    obtain ⟨ud, hud⟩ : ∃ t, u.extract 24 u.size = t := ⟨_, rfl⟩
                    have zud : ud.size + 24 = u.size := by rw [← hud, Lib.ext_size]; omega
                    have eud : u.size - 24 = ud.size := by omega
                    have sbud : SB g (ou + 24) ud wr := by rw [← hud]; exact su.ext 24
                    obtain ⟨A4, hA4⟩ : ∃ A, Lib.leNat [u.get! 0, u.get! 1, u.get! 2, u.get! 3, u.get! 4, u.get! 5, u.get! 6, u.get! 7] = A := ⟨_, rfl⟩
                    have lA4 : A4 < 18446744073709551616 := hA4 ▸ Lib.word_lt u
                    have HW4 := hidF (show ∀ (W : World) (m : Nat), SB g (ou) u W → Calls Tryd.prog 25 #[.slice (some ⟨g, ou, none⟩) u.size m] W fun e w' => e = .returned (.int .u64 (A4 : Int)) ∧ ∃ q, w' = W.drewN q from fun W m h => by rw [← hA4]; exact h.word (by omega))
                    have kA4 := Lib.word_asc u (by omega)
                    rw [hA4] at kA4
                    clear hA4
                    obtain ⟨A5, hA5⟩ : ∃ A, Lib.leNat [ub.get! 0, ub.get! 1, ub.get! 2, ub.get! 3, ub.get! 4, ub.get! 5, ub.get! 6, ub.get! 7] = A := ⟨_, rfl⟩
                    have lA5 : A5 < 18446744073709551616 := hA5 ▸ Lib.word_lt ub
                    have HW5 := hidF (show ∀ (W : World) (m : Nat), SB g (ou + 8) ub W → Calls Tryd.prog 25 #[.slice (some ⟨g, ou + 8, none⟩) ub.size m] W fun e w' => e = .returned (.int .u64 (A5 : Int)) ∧ ∃ q, w' = W.drewN q from fun W m h => by rw [← hA5]; exact h.word (by omega))
                    have kA5 := Lib.word_asc ub (by omega)
                    rw [hA5] at kA5
                    clear hA5
                    obtain ⟨A6, hA6⟩ : ∃ A, Lib.leNat [uc.get! 0, uc.get! 1, uc.get! 2, uc.get! 3, uc.get! 4, uc.get! 5, uc.get! 6, uc.get! 7] = A := ⟨_, rfl⟩
                    have lA6 : A6 < 18446744073709551616 := hA6 ▸ Lib.word_lt uc
                    have HW6 := hidF (show ∀ (W : World) (m : Nat), SB g (ou + 16) uc W → Calls Tryd.prog 25 #[.slice (some ⟨g, ou + 16, none⟩) uc.size m] W fun e w' => e = .returned (.int .u64 (A6 : Int)) ∧ ∃ q, w' = W.drewN q from fun W m h => by rw [← hA6]; exact h.word (by omega))
                    have kA6 := Lib.word_asc uc (by omega)
                    rw [hA6] at kA6
                    clear hA6
                    obtain ⟨A7, hA7⟩ : ∃ A, Lib.leNat [ud.get! 0, ud.get! 1, ud.get! 2, ud.get! 3, ud.get! 4, ud.get! 5, ud.get! 6, ud.get! 7] = A := ⟨_, rfl⟩
                    have lA7 : A7 < 18446744073709551616 := hA7 ▸ Lib.word_lt ud
                    have HW7 := hidF (show ∀ (W : World) (m : Nat), SB g (ou + 24) ud W → Calls Tryd.prog 25 #[.slice (some ⟨g, ou + 24, none⟩) ud.size m] W fun e w' => e = .returned (.int .u64 (A7 : Int)) ∧ ∃ q, w' = W.drewN q from fun W m h => by rw [← hA7]; exact h.word (by omega))
                    have kA7 := Lib.word_asc ud (by omega)
                    rw [hA7] at kA7
                    clear hA7
                    have ho1 : bits .or .u64 (A4 : Int) (A5 : Int) = ((A4 ||| A5 : Nat) : Int) := u64_or_nat A4 A5 lA4 lA5
                    have ho2 : bits .or .u64 (A6 : Int) (A7 : Int) = ((A6 ||| A7 : Nat) : Int) := u64_or_nat A6 A7 lA6 lA7
                    have lo1 : A4 ||| A5 < 18446744073709551616 := Nat.or_lt_two_pow (n := 64) lA4 lA5
                    have lo2 : A6 ||| A7 < 18446744073709551616 := Nat.or_lt_two_pow (n := 64) lA6 lA7
                    have ho3 : bits .or .u64 ((A4 ||| A5 : Nat) : Int) ((A6 ||| A7 : Nat) : Int) = (((A4 ||| A5) ||| (A6 ||| A7) : Nat) : Int) := u64_or_nat _ _ lo1 lo2
                    have lo3 : (A4 ||| A5) ||| (A6 ||| A7) < 18446744073709551616 := Nat.or_lt_two_pow (n := 64) lo1 lo2
                    have hand3 : bits .and .u64 (((A4 ||| A5) ||| (A6 ||| A7) : Nat) : Int) 9259542123273814144 = ((((A4 ||| A5) ||| (A6 ||| A7)) &&& 9259542123273814144 : Nat) : Int) := u64_and_nat _ 9259542123273814144 lo3 (by omega)
                    have k3 : ((A4 ||| A5) ||| (A6 ||| A7)) &&& 9259542123273814144 = 0 → Lib.Asc u 32 := fun h0' => by
                      obtain ⟨e01, e23⟩ := (Lib.or_mask _ _ _).1 h0'
                      obtain ⟨e0, e1⟩ := (Lib.or_mask _ _ _).1 e01
                      obtain ⟨e2, e3⟩ := (Lib.or_mask _ _ _).1 e23
                      have s16 : Lib.Asc u 16 := Lib.asc_add u 8 8 (kA4.1 e0) (by rw [hub]; exact kA5.1 e1)
                      have s24 : Lib.Asc u 24 := Lib.asc_add u 16 8 s16 (by rw [huc]; exact kA6.1 e2)
                      exact Lib.asc_add u 24 8 s24 (by rw [hud]; exact kA7.1 e3)
                    obtain ⟨P1, hP1⟩ : ∃ P1, A4 ||| A5 = P1 := ⟨_, rfl⟩
                    obtain ⟨P2, hP2⟩ : ∃ P2, A6 ||| A7 = P2 := ⟨_, rfl⟩
                    rw [hP1, hP2] at ho3 hand3 k3
                    rw [hP1] at ho1
                    rw [hP2] at ho2
                    obtain ⟨P3, hP3⟩ : ∃ P3, P1 ||| P2 = P3 := ⟨_, rfl⟩
                    rw [hP3] at ho3 hand3 k3
                    obtain ⟨Z3, hZ3⟩ : ∃ Z3, P3 &&& 9259542123273814144 = Z3 := ⟨_, rfl⟩
                    rw [hZ3] at hand3 k3
                    have K3 := hidF k3
                    clear kA4 kA5 kA6 kA7 lo1 lo2 lo3 hP1 hP2 hP3 hZ3 k3 lA4 lA5 lA6 lA7 zub zuc zud hub huc hud
                    by_cases hz3 : Z3 = 0
                    · have hz3b : ((Z3 : Int) == 0) = true := by simp [hz3]
                      have a32 := K3.out hz3
                      obtain ⟨u2, hu2⟩ : ∃ t, u.extract 32 u.size = t := ⟨_, rfl⟩
                      have zu2 : u2.size + 32 = u.size := by rw [← hu2, Lib.ext_size]; omega
                      have eu2 : u.size - 32 = u2.size := by omega
                      have sbu2 : SB g (ou + 32) u2 wr := by rw [← hu2]; exact su.ext 32
                      have vu2 : Lib.validD u2.data.toList = ANS := by rw [← hu2, Lib.valid_skip u 32 a32]; exact vu
                      have Hzu2 := hidF zu2
                      clear zu2 hu2 a32 hz3
                      go_wp2_with fail
                      go_quiet ((first | (go_at_call 25; (with_reducible refine Calls.quiet_of (HW4.out _ _ ?_)); exact su) | (go_at_call 25; (with_reducible refine Calls.quiet_of (HW5.out _ _ ?_)); exact sbub) | (go_at_call 25; (with_reducible refine Calls.quiet_of (HW6.out _ _ ?_)); exact sbuc) | (go_at_call 25; (with_reducible refine Calls.quiet_of (HW7.out _ _ ?_)); exact sbud)))
                      go_wp2_with fail
                      go_roundg g3
                      case measure => omega
                      case rel => exact ⟨below_drewNv hbu nq, u2, ou + 32, rfl, sbu2, vu2, by have := Hzu2.out; omega, by have := Hzu2.out; omega⟩
                    · have hz3b : ((Z3 : Int) == 0) = false := by simp; omega
                      go_wp2_with fail
                      go_quiet ((first | (go_at_call 25; (with_reducible refine Calls.quiet_of (HW4.out _ _ ?_)); exact su) | (go_at_call 25; (with_reducible refine Calls.quiet_of (HW5.out _ _ ?_)); exact sbub) | (go_at_call 25; (with_reducible refine Calls.quiet_of (HW6.out _ _ ?_)); exact sbuc) | (go_at_call 25; (with_reducible refine Calls.quiet_of (HW7.out _ _ ?_)); exact sbud)))
                      go_wp2_with fail
                      go_roundg g'
                      case measure => omega
                      case rel => exact ⟨below_drewNv hbu nq, u, ou, rfl, su, vu, by omega, by omega⟩
                  · have c32z : ¬ ((32 : Int) < (u.size : Int)) := by omega
                    have c32b : decide ((32 : Int) < (u.size : Int)) = false := decide_eq_false c32z
                    go_wp2_with fail
                    go_quiet (fail)
                    go_wp2_with fail
                    go_roundg g'
                    case measure => omega
                    case rel => exact ⟨below_drewNv hbu nq, u, ou, rfl, su, vu, by omega, by omega⟩
              · have hz2b : ((Z2 : Int) == 0) = false := by simp; omega
                have Hz2b := hidF zt2b
                have Hz2 := hidF zt2
                clear zt2b zt2
                go_quiet ((first | (go_at_call 25; (with_reducible refine Calls.quiet_of (HW2.out _ _ ?_)); exact sbq) | (go_at_call 25; (with_reducible refine Calls.quiet_of (HW3.out _ _ ?_)); exact sbt2b)))
                go_wp2_with fail
                go_roundg g'
                case measure => omega
                case rel => exact ⟨below_drewNv hb1 nq, t2, o + 1 + 8, rfl, sbq, v2, by have := Hz2.out; have := HZ1.out; omega, by have := Hz2.out; have := HZ1.out; omega⟩
            · have c16z : ¬ ((16 : Int) < (t2.size : Int)) := by omega
              have c16b : decide ((16 : Int) < (t2.size : Int)) = false := decide_eq_false c16z
              have Hz2 := hidF zt2
              clear zt2
              go_quiet (fail)
              go_wp2_with fail
              go_roundg g'
              case measure => omega
              case rel => exact ⟨below_drewNv hb1 nq, t2, o + 1 + 8, rfl, sbq, v2, by have := Hz2.out; have := HZ1.out; omega, by have := Hz2.out; have := HZ1.out; omega⟩
          · have hz1b : ((Z1 : Int) == 0) = false := by simp; omega
            clear kA1 z1 ht1 hz1
            go_wp2_with fail
            refine (HW1.out _ _ sb1).mono ?_
            rintro e W1 ⟨rfl, q1, rfl⟩
            go_wp2_with fail
            go_roundg g'
            case measure => have := HZ1.out; omega
            case rel => exact ⟨below_drewNv hbw q1, t1, o + 1, rfl, sb1, v1, by have := HZ1.out; omega, by have := HZ1.out; omega⟩
        · have c8z : ¬ ((8 : Int) < (t1.size : Int)) := by omega
          have HZ1 := hidF z1
          by_cases hone : t.size = 1
          · have hone' : t1.size = 0 := by omega
            have hem : t1.size ≤ 0 := by omega
            have HE := hidF (show t1.data.toList = [] from List.eq_nil_of_length_eq_zero (by rw [← size_of_list]; exact hone'))
            clear z1 ht1 hone'
            go_wp2_with fail
            go_roundg g'
            case measure => have := HZ1.out; omega
            case rel =>
              exact ⟨hbw, ⟨#[]⟩, o, rfl, fun j hj => absurd hj (Nat.not_lt_zero j), by rw [← v1, HE.out], by have := HZ1.out; show 0 < g'; omega, by show 0 ≤ 1000000000; omega⟩
          · clear z1 ht1
            go_wp2_with fail
            go_roundg g'
            case measure => have := HZ1.out; omega
            case rel => exact ⟨hbw, t1, o + 1, rfl, sb1, v1, by have := HZ1.out; omega, by have := HZ1.out; omega⟩
      · as_aux_lemma =>
        have hge : 128 ≤ x0.toNat := by omega
        have hascz : ¬ ((x0.toNat : Int) < 128) := by omega
        obtain ⟨x1, hx1⟩ : ∃ x1, t.get! 1 = x1 := ⟨_, rfl⟩
        obtain ⟨x2, hx2⟩ : ∃ x2, t.get! 2 = x2 := ⟨_, rfl⟩
        obtain ⟨x3, hx3⟩ : ∃ x3, t.get! 3 = x3 := ⟨_, rfl⟩
        have l1 := x1.toNat_lt
        have l2 := x2.toNat_lt
        have l3 := x3.toNat_lt
        have hne : t.data.toList ≠ [] := fun h => by rw [Lib.size_eq, h] at h0; simp at h0
        have hlead := Lib.validD_lead t.data.toList hne (by rw [Lib.getD_get!', hx0]; exact hge)
        rw [Lib.getD_get!', Lib.getD_get!', Lib.getD_get!', Lib.getD_get!', hx0, hx1, hx2, hx3, ← Lib.size_eq, hv] at hlead
        have hc0 := hTr.1 x0.toNat hx0lt
        have hXlt : Lib.firstT x0.toNat < 256 := by rcases Lib.firstT_cases x0.toNat with h | h | h | h | h | h | h | h | h <;> omega
        obtain ⟨X, hX⟩ : ∃ X, Lib.firstT x0.toNat = X := ⟨_, rfl⟩
        rw [hX] at hc0 hXlt hlead
        have h7 := and7 ⟨X, hXlt⟩
        simp only at h7
        have ha0 : wr.cell? ⟨1, X / 16 * 2, none⟩ = some (.int .u8 (Lib.accLo (X / 16))) := by rw [Nat.mul_comm]; exact (hTr.2 (X / 16) (by omega)).1
        have ha1 : wr.cell? ⟨1, X / 16 * 2 + 1, none⟩ = some (.int .u8 (Lib.accHi (X / 16))) := by rw [Nat.mul_comm]; exact (hTr.2 (X / 16) (by omega)).2
        obtain ⟨LO, hLO⟩ : ∃ LO, Lib.accLo (X / 16) = LO := ⟨_, rfl⟩
        obtain ⟨HI, hHI⟩ : ∃ HI, Lib.accHi (X / 16) = HI := ⟨_, rfl⟩
        rw [hLO] at ha0 hlead
        rw [hHI] at ha1 hlead
        obtain ⟨SZ, hSZ⟩ : ∃ SZ, X % 8 = SZ := ⟨_, rfl⟩
        rw [hSZ] at hlead
        have hgw : g < wr.heap.size := Nat.lt_of_lt_of_le hg hbw.size
        have c1 : 1 < t.size → wr.cell? ⟨g, o + 1, none⟩ = some (.int .u8 (x1.toNat : Int)) := fun h => by rw [← hx1]; exact hsb.at 1 h
        have c2 : 2 < t.size → wr.cell? ⟨g, o + 2, none⟩ = some (.int .u8 (x2.toNat : Int)) := fun h => by rw [← hx2]; exact hsb.at 2 h
        have c3 : 3 < t.size → wr.cell? ⟨g, o + 3, none⟩ = some (.int .u8 (x3.toNat : Int)) := fun h => by rw [← hx3]; exact hsb.at 3 h
        have C1 := hidF c1
        have C2 := hidF c2
        have C3 := hidF c3
        clear hTr hT hX hv hLO hHI hne c1 c2 c3
        by_cases s2 : SZ = 2
        · as_aux_lemma =>
          subst s2
          have hSZz : (X : Int) % 8 = 2 := by omega
          simp only [Lib.checkN, Nat.reduceEqDiff, if_true, if_false] at hlead
          go_upto_region 18 with fail
          go_cut [103] from 85 to 103 (fun c wx => c = .bool (decide (t.size < 2 ∨ x1.toNat < LO ∨ HI < x1.toNat)) ∧ Below w.heap.size w wx)
          case first =>
            as_aux_lemma =>
            by_cases q0 : t.size < 2
            · have q0z : (t.size : Int) < 2 := by omega
              go_quiet (fail)
              go_wp2_with fail
              go_meet
              exact ⟨congrArg Value.bool (decide_eq_true (p := t.size < 2 ∨ x1.toNat < LO ∨ HI < x1.toNat) (by omega)).symm, below_drewNv (hbw.alloc hbw.size _) _⟩
            · have q0z : ¬ ((t.size : Int) < 2) := by omega
              have hz1 : (1 : Int) < (t.size : Int) := by omega
              have d1 := C1.out (by omega)
              by_cases q1 : x1.toNat < LO
              · have q1z : (x1.toNat : Int) < (LO : Int) := by omega
                go_quiet (fail)
                go_wp2_with fail
                go_meet
                exact ⟨congrArg Value.bool (decide_eq_true (p := t.size < 2 ∨ x1.toNat < LO ∨ HI < x1.toNat) (by omega)).symm, below_drewNv (hbw.alloc hbw.size _) _⟩
              · have q1z : ¬ ((x1.toNat : Int) < (LO : Int)) := by omega
                by_cases q2 : HI < x1.toNat
                · have q2z : (HI : Int) < (x1.toNat : Int) := by omega
                  go_quiet (fail)
                  go_wp2_with fail
                  go_meet
                  exact ⟨congrArg Value.bool (decide_eq_true (p := t.size < 2 ∨ x1.toNat < LO ∨ HI < x1.toNat) (by omega)).symm, below_drewNv (hbw.alloc hbw.size _) _⟩
                · have q2z : ¬ ((HI : Int) < (x1.toNat : Int)) := by omega
                  go_quiet (fail)
                  go_wp2_with fail
                  go_meet
                  exact ⟨congrArg Value.bool (decide_eq_false (p := t.size < 2 ∨ x1.toNat < LO ∨ HI < x1.toNat) (by omega)).symm, below_drewNv (hbw.alloc hbw.size _) _⟩
          case rest =>
            as_aux_lemma =>
            obtain ⟨rfl, hbc⟩ := hcut
            by_cases hb : t.size < 2 ∨ x1.toNat < LO ∨ HI < x1.toNat
            · have hbd : decide (t.size < 2 ∨ x1.toNat < LO ∨ HI < x1.toNat) = true := decide_eq_true hb
              rw [if_pos hb] at hlead
              go_wp2_with fail
              all_goals (go_ret; exact ⟨by first | rfl | rw [hlead], hbc⟩)
            · have hbd : decide (t.size < 2 ∨ x1.toNat < LO ∨ HI < x1.toNat) = false := decide_eq_false hb
              rw [if_neg hb] at hlead
              replace hlead : ANS = Lib.validD (t.data.toList.drop 2) := hlead
              have hge2 : 2 ≤ t.size := by omega
              have hge2z : (2 : Int) ≤ (t.size : Int) := by omega
              have hsx : SB g (o + 2) (t.extract 2 t.size) wr := hsb.ext 2
              have hsx2 := hsx.via hbw hbc hg
              by_cases hk : t.size = 2
              · have HE := hidF (show t.data.toList.drop 2 = [] from List.drop_eq_nil_of_le (by rw [← size_of_list]; omega))
                rw [HE.out] at hlead
                have Hlead := hidF hlead
                clear hlead hsx hsx2
                go_wp2_with fail
                go_roundg g'
                case measure => omega
                case rel => exact ⟨hbc, ⟨#[]⟩, o, rfl, fun j hj => absurd hj (Nat.not_lt_zero j), Hlead.out.symm, by show 0 < g'; omega, by show 0 ≤ 1000000000; omega⟩
              · obtain ⟨tt, htt⟩ : ∃ tt, t.extract 2 t.size = tt := ⟨_, rfl⟩
                have hval : Lib.validD tt.data.toList = ANS := by rw [← htt, Lib.ext_list]; exact hlead.symm
                have ett : t.size - 2 = tt.size := by rw [← htt, Lib.ext_size]
                have Hett := hidF ett
                rw [htt] at hsx2
                clear htt hlead hsx
                go_wp2_with fail
                go_roundg g'
                case measure => omega
                case rel => exact ⟨hbc, tt, o + 2, by first | rfl | (rw [Hett.out]), hsx2, hval, by have := Hett.out; omega, by have := Hett.out; omega⟩
        by_cases s3 : SZ = 3
        · as_aux_lemma =>
          subst s3
          have hSZz : (X : Int) % 8 = 3 := by omega
          simp only [Lib.checkN, Nat.reduceEqDiff, if_true, if_false] at hlead
          go_upto_region 22 with fail
          go_cut [138] from 108 to 138 (fun c wx => c = .bool (decide (t.size < 3 ∨ x1.toNat < LO ∨ HI < x1.toNat ∨ x2.toNat < 128 ∨ 191 < x2.toNat)) ∧ Below w.heap.size w wx)
          case first =>
            as_aux_lemma =>
            by_cases q0 : t.size < 3
            · have q0z : (t.size : Int) < 3 := by omega
              go_quiet (fail)
              go_wp2_with fail
              go_meet
              exact ⟨congrArg Value.bool (decide_eq_true (p := t.size < 3 ∨ x1.toNat < LO ∨ HI < x1.toNat ∨ x2.toNat < 128 ∨ 191 < x2.toNat) (by omega)).symm, below_drewNv (hbw.alloc hbw.size _) _⟩
            · have q0z : ¬ ((t.size : Int) < 3) := by omega
              have hz1 : (1 : Int) < (t.size : Int) := by omega
              have d1 := C1.out (by omega)
              have hz2 : (2 : Int) < (t.size : Int) := by omega
              have d2 := C2.out (by omega)
              by_cases q1 : x1.toNat < LO
              · have q1z : (x1.toNat : Int) < (LO : Int) := by omega
                go_quiet (fail)
                go_wp2_with fail
                go_meet
                exact ⟨congrArg Value.bool (decide_eq_true (p := t.size < 3 ∨ x1.toNat < LO ∨ HI < x1.toNat ∨ x2.toNat < 128 ∨ 191 < x2.toNat) (by omega)).symm, below_drewNv (hbw.alloc hbw.size _) _⟩
              · have q1z : ¬ ((x1.toNat : Int) < (LO : Int)) := by omega
                by_cases q2 : HI < x1.toNat
                · have q2z : (HI : Int) < (x1.toNat : Int) := by omega
                  go_quiet (fail)
                  go_wp2_with fail
                  go_meet
                  exact ⟨congrArg Value.bool (decide_eq_true (p := t.size < 3 ∨ x1.toNat < LO ∨ HI < x1.toNat ∨ x2.toNat < 128 ∨ 191 < x2.toNat) (by omega)).symm, below_drewNv (hbw.alloc hbw.size _) _⟩
                · have q2z : ¬ ((HI : Int) < (x1.toNat : Int)) := by omega
                  by_cases q3 : x2.toNat < 128
                  · have q3z : (x2.toNat : Int) < (128 : Int) := by omega
                    go_quiet (fail)
                    go_wp2_with fail
                    go_meet
                    exact ⟨congrArg Value.bool (decide_eq_true (p := t.size < 3 ∨ x1.toNat < LO ∨ HI < x1.toNat ∨ x2.toNat < 128 ∨ 191 < x2.toNat) (by omega)).symm, below_drewNv (hbw.alloc hbw.size _) _⟩
                  · have q3z : ¬ ((x2.toNat : Int) < (128 : Int)) := by omega
                    by_cases q4 : 191 < x2.toNat
                    · have q4z : (191 : Int) < (x2.toNat : Int) := by omega
                      go_quiet (fail)
                      go_wp2_with fail
                      go_meet
                      exact ⟨congrArg Value.bool (decide_eq_true (p := t.size < 3 ∨ x1.toNat < LO ∨ HI < x1.toNat ∨ x2.toNat < 128 ∨ 191 < x2.toNat) (by omega)).symm, below_drewNv (hbw.alloc hbw.size _) _⟩
                    · have q4z : ¬ ((191 : Int) < (x2.toNat : Int)) := by omega
                      go_quiet (fail)
                      go_wp2_with fail
                      go_meet
                      exact ⟨congrArg Value.bool (decide_eq_false (p := t.size < 3 ∨ x1.toNat < LO ∨ HI < x1.toNat ∨ x2.toNat < 128 ∨ 191 < x2.toNat) (by omega)).symm, below_drewNv (hbw.alloc hbw.size _) _⟩
          case rest =>
            as_aux_lemma =>
            obtain ⟨rfl, hbc⟩ := hcut
            by_cases hb : t.size < 3 ∨ x1.toNat < LO ∨ HI < x1.toNat ∨ x2.toNat < 128 ∨ 191 < x2.toNat
            · have hbd : decide (t.size < 3 ∨ x1.toNat < LO ∨ HI < x1.toNat ∨ x2.toNat < 128 ∨ 191 < x2.toNat) = true := decide_eq_true hb
              rw [if_pos hb] at hlead
              go_wp2_with fail
              all_goals (go_ret; exact ⟨by first | rfl | rw [hlead], hbc⟩)
            · have hbd : decide (t.size < 3 ∨ x1.toNat < LO ∨ HI < x1.toNat ∨ x2.toNat < 128 ∨ 191 < x2.toNat) = false := decide_eq_false hb
              rw [if_neg hb] at hlead
              replace hlead : ANS = Lib.validD (t.data.toList.drop 3) := hlead
              have hge2 : 3 ≤ t.size := by omega
              have hge2z : (3 : Int) ≤ (t.size : Int) := by omega
              have hsx : SB g (o + 3) (t.extract 3 t.size) wr := hsb.ext 3
              have hsx2 := hsx.via hbw hbc hg
              by_cases hk : t.size = 3
              · have HE := hidF (show t.data.toList.drop 3 = [] from List.drop_eq_nil_of_le (by rw [← size_of_list]; omega))
                rw [HE.out] at hlead
                have Hlead := hidF hlead
                clear hlead hsx hsx2
                go_wp2_with fail
                go_roundg g'
                case measure => omega
                case rel => exact ⟨hbc, ⟨#[]⟩, o, rfl, fun j hj => absurd hj (Nat.not_lt_zero j), Hlead.out.symm, by show 0 < g'; omega, by show 0 ≤ 1000000000; omega⟩
              · obtain ⟨tt, htt⟩ : ∃ tt, t.extract 3 t.size = tt := ⟨_, rfl⟩
                have hval : Lib.validD tt.data.toList = ANS := by rw [← htt, Lib.ext_list]; exact hlead.symm
                have ett : t.size - 3 = tt.size := by rw [← htt, Lib.ext_size]
                have Hett := hidF ett
                rw [htt] at hsx2
                clear htt hlead hsx
                go_wp2_with fail
                go_roundg g'
                case measure => omega
                case rel => exact ⟨hbc, tt, o + 3, by first | rfl | (rw [Hett.out]), hsx2, hval, by have := Hett.out; omega, by have := Hett.out; omega⟩
        by_cases s4 : SZ = 4
        · as_aux_lemma =>
          subst s4
          have hSZz : (X : Int) % 8 = 4 := by omega
          simp only [Lib.checkN, Nat.reduceEqDiff, if_true, if_false] at hlead
          go_upto_region 26 with fail
          go_cut [185] from 143 to 185 (fun c wx => c = .bool (decide (t.size < 4 ∨ x1.toNat < LO ∨ HI < x1.toNat ∨ x2.toNat < 128 ∨ 191 < x2.toNat ∨ x3.toNat < 128 ∨ 191 < x3.toNat)) ∧ Below w.heap.size w wx)
          case first =>
            as_aux_lemma =>
            by_cases q0 : t.size < 4
            · have q0z : (t.size : Int) < 4 := by omega
              go_quiet (fail)
              go_wp2_with fail
              go_meet
              exact ⟨congrArg Value.bool (decide_eq_true (p := t.size < 4 ∨ x1.toNat < LO ∨ HI < x1.toNat ∨ x2.toNat < 128 ∨ 191 < x2.toNat ∨ x3.toNat < 128 ∨ 191 < x3.toNat) (by omega)).symm, below_drewNv (hbw.alloc hbw.size _) _⟩
            · have q0z : ¬ ((t.size : Int) < 4) := by omega
              have hz1 : (1 : Int) < (t.size : Int) := by omega
              have d1 := C1.out (by omega)
              have hz2 : (2 : Int) < (t.size : Int) := by omega
              have d2 := C2.out (by omega)
              have hz3 : (3 : Int) < (t.size : Int) := by omega
              have d3 := C3.out (by omega)
              by_cases q1 : x1.toNat < LO
              · have q1z : (x1.toNat : Int) < (LO : Int) := by omega
                go_quiet (fail)
                go_wp2_with fail
                go_meet
                exact ⟨congrArg Value.bool (decide_eq_true (p := t.size < 4 ∨ x1.toNat < LO ∨ HI < x1.toNat ∨ x2.toNat < 128 ∨ 191 < x2.toNat ∨ x3.toNat < 128 ∨ 191 < x3.toNat) (by omega)).symm, below_drewNv (hbw.alloc hbw.size _) _⟩
              · have q1z : ¬ ((x1.toNat : Int) < (LO : Int)) := by omega
                by_cases q2 : HI < x1.toNat
                · have q2z : (HI : Int) < (x1.toNat : Int) := by omega
                  go_quiet (fail)
                  go_wp2_with fail
                  go_meet
                  exact ⟨congrArg Value.bool (decide_eq_true (p := t.size < 4 ∨ x1.toNat < LO ∨ HI < x1.toNat ∨ x2.toNat < 128 ∨ 191 < x2.toNat ∨ x3.toNat < 128 ∨ 191 < x3.toNat) (by omega)).symm, below_drewNv (hbw.alloc hbw.size _) _⟩
                · have q2z : ¬ ((HI : Int) < (x1.toNat : Int)) := by omega
                  by_cases q3 : x2.toNat < 128
                  · have q3z : (x2.toNat : Int) < (128 : Int) := by omega
                    go_quiet (fail)
                    go_wp2_with fail
                    go_meet
                    exact ⟨congrArg Value.bool (decide_eq_true (p := t.size < 4 ∨ x1.toNat < LO ∨ HI < x1.toNat ∨ x2.toNat < 128 ∨ 191 < x2.toNat ∨ x3.toNat < 128 ∨ 191 < x3.toNat) (by omega)).symm, below_drewNv (hbw.alloc hbw.size _) _⟩
                  · have q3z : ¬ ((x2.toNat : Int) < (128 : Int)) := by omega
                    by_cases q4 : 191 < x2.toNat
                    · have q4z : (191 : Int) < (x2.toNat : Int) := by omega
                      go_quiet (fail)
                      go_wp2_with fail
                      go_meet
                      exact ⟨congrArg Value.bool (decide_eq_true (p := t.size < 4 ∨ x1.toNat < LO ∨ HI < x1.toNat ∨ x2.toNat < 128 ∨ 191 < x2.toNat ∨ x3.toNat < 128 ∨ 191 < x3.toNat) (by omega)).symm, below_drewNv (hbw.alloc hbw.size _) _⟩
                    · have q4z : ¬ ((191 : Int) < (x2.toNat : Int)) := by omega
                      by_cases q5 : x3.toNat < 128
                      · have q5z : (x3.toNat : Int) < (128 : Int) := by omega
                        go_quiet (fail)
                        go_wp2_with fail
                        go_meet
                        exact ⟨congrArg Value.bool (decide_eq_true (p := t.size < 4 ∨ x1.toNat < LO ∨ HI < x1.toNat ∨ x2.toNat < 128 ∨ 191 < x2.toNat ∨ x3.toNat < 128 ∨ 191 < x3.toNat) (by omega)).symm, below_drewNv (hbw.alloc hbw.size _) _⟩
                      · have q5z : ¬ ((x3.toNat : Int) < (128 : Int)) := by omega
                        by_cases q6 : 191 < x3.toNat
                        · have q6z : (191 : Int) < (x3.toNat : Int) := by omega
                          go_quiet (fail)
                          go_wp2_with fail
                          go_meet
                          exact ⟨congrArg Value.bool (decide_eq_true (p := t.size < 4 ∨ x1.toNat < LO ∨ HI < x1.toNat ∨ x2.toNat < 128 ∨ 191 < x2.toNat ∨ x3.toNat < 128 ∨ 191 < x3.toNat) (by omega)).symm, below_drewNv (hbw.alloc hbw.size _) _⟩
                        · have q6z : ¬ ((191 : Int) < (x3.toNat : Int)) := by omega
                          go_quiet (fail)
                          go_wp2_with fail
                          go_meet
                          exact ⟨congrArg Value.bool (decide_eq_false (p := t.size < 4 ∨ x1.toNat < LO ∨ HI < x1.toNat ∨ x2.toNat < 128 ∨ 191 < x2.toNat ∨ x3.toNat < 128 ∨ 191 < x3.toNat) (by omega)).symm, below_drewNv (hbw.alloc hbw.size _) _⟩
          case rest =>
            as_aux_lemma =>
            obtain ⟨rfl, hbc⟩ := hcut
            by_cases hb : t.size < 4 ∨ x1.toNat < LO ∨ HI < x1.toNat ∨ x2.toNat < 128 ∨ 191 < x2.toNat ∨ x3.toNat < 128 ∨ 191 < x3.toNat
            · have hbd : decide (t.size < 4 ∨ x1.toNat < LO ∨ HI < x1.toNat ∨ x2.toNat < 128 ∨ 191 < x2.toNat ∨ x3.toNat < 128 ∨ 191 < x3.toNat) = true := decide_eq_true hb
              rw [if_pos hb] at hlead
              go_wp2_with fail
              all_goals (go_ret; exact ⟨by first | rfl | rw [hlead], hbc⟩)
            · have hbd : decide (t.size < 4 ∨ x1.toNat < LO ∨ HI < x1.toNat ∨ x2.toNat < 128 ∨ 191 < x2.toNat ∨ x3.toNat < 128 ∨ 191 < x3.toNat) = false := decide_eq_false hb
              rw [if_neg hb] at hlead
              replace hlead : ANS = Lib.validD (t.data.toList.drop 4) := hlead
              have hge2 : 4 ≤ t.size := by omega
              have hge2z : (4 : Int) ≤ (t.size : Int) := by omega
              have hsx : SB g (o + 4) (t.extract 4 t.size) wr := hsb.ext 4
              have hsx2 := hsx.via hbw hbc hg
              by_cases hk : t.size = 4
              · have HE := hidF (show t.data.toList.drop 4 = [] from List.drop_eq_nil_of_le (by rw [← size_of_list]; omega))
                rw [HE.out] at hlead
                have Hlead := hidF hlead
                clear hlead hsx hsx2
                go_wp2_with fail
                go_roundg g'
                case measure => omega
                case rel => exact ⟨hbc, ⟨#[]⟩, o, rfl, fun j hj => absurd hj (Nat.not_lt_zero j), Hlead.out.symm, by show 0 < g'; omega, by show 0 ≤ 1000000000; omega⟩
              · obtain ⟨tt, htt⟩ : ∃ tt, t.extract 4 t.size = tt := ⟨_, rfl⟩
                have hval : Lib.validD tt.data.toList = ANS := by rw [← htt, Lib.ext_list]; exact hlead.symm
                have ett : t.size - 4 = tt.size := by rw [← htt, Lib.ext_size]
                have Hett := hidF ett
                rw [htt] at hsx2
                clear htt hlead hsx
                go_wp2_with fail
                go_roundg g'
                case measure => omega
                case rel => exact ⟨hbc, tt, o + 4, by first | rfl | (rw [Hett.out]), hsx2, hval, by have := Hett.out; omega, by have := Hett.out; omega⟩
        have e2 : ¬ ((X : Int) % 8 = 2) := by omega
        have e3 : ¬ ((X : Int) % 8 = 3) := by omega
        have e4 : ¬ ((X : Int) % 8 = 4) := by omega
        have e2b : (((X : Int) % 8) == 2) = false := by simp; omega
        have e3b : (((X : Int) % 8) == 3) = false := by simp; omega
        have e4b : (((X : Int) % 8) == 4) = false := by simp; omega
        simp only [Lib.checkN, s2, s3, s4, if_false] at hlead
        go_wp2_with fail
        all_goals (go_ret; exact ⟨by first | rfl | rw [hlead], hbw.alloc hbw.size _⟩)
    · have h0z : ¬ ((0 : Int) < (t.size : Int)) := by omega
      have ht0 : t.data.toList = [] := List.eq_nil_of_length_eq_zero (by rw [← Lib.size_eq]; omega)
      rw [ht0, Lib.validD_nil] at hv
      subst hv
      go_wp2_with fail
      go_ret
      exact ⟨rfl, hbw⟩

set_option maxRecDepth 100000 in
theorem valid_nil (w : World) : Calls Tryd.prog 19 #[.slice none 0 0] w fun e w' => e = .returned (.bool true) ∧ Below w.heap.size w w' := by
  go_enter Tryd.func19, Tryd.ntmps19
  go_wp2_with fail
  go_loopg [0] 1 (fun gk s0 wx => Below w.heap.size w wx ∧ s0 = .slice none 0 0)
  case atStart => exact ⟨Below.refl _ _, rfl⟩
  case round =>
    obtain ⟨hbw, rfl⟩ := hrel
    go_wp2_with fail
    go_ret
    exact ⟨rfl, hbw⟩

theorem valid_any (B : Nat) (v : Value) (l : List UInt8) (w : World) (h : OwnB B v l w) (hl : l.length ≤ 1000000000) (hT : Lib.Utf8Tabs 0 1 w) :
    Calls Tryd.prog 19 #[v] w fun e w' => e = .returned (.bool (Lib.validD l)) ∧ Below w.heap.size w w' := by
  rcases h.row with ⟨rfl, rfl⟩ | ⟨g, cap, rfl, _, hg, h1, h2, hc⟩
  · refine (valid_nil w).mono ?_
    rintro e w' ⟨rfl, hb⟩
    exact ⟨by rw [Lib.validD_nil], hb⟩
  · have hsz : (mkB l).size = l.length := size_mkB l
    have := valid_row g cap (mkB l) w (by omega) (by omega) h2 hg (fun j hj => by
      rw [Nat.zero_add]
      have hj' : j < l.length := by omega
      have e := get_of (mkB l) j hj
      rw [mkB_list] at e
      exact (hc j _ e).1) hT
    rw [hsz, mkB_list] at this
    exact this
end Go.Proofs.YtbpoecfbcmdeeaaDoor
