/- The walks of the parser's classes of signs, and of the reference's IsAtom. -/
import Derived.Test.YtolbedmmjennoaaDoorUtf
import Derived.Test.YtolbedmmjennoaaDoorRow
import Derived.Lib.SlBytesConst
namespace Go.Proofs.YtolbedmmjennoaaDoor
open Go.RowKit

set_option maxHeartbeats 400000 in
theorem isVchar_any (r : Int) (w : World) :
    Calls Tryd.prog 21 #[.int .i32 r] w fun e w' => e = .returned (.bool (vcharI r)) ∧ w = w' := by
  by_cases h1 : 33 ≤ r
  · by_cases h2 : r ≤ 126
    · have hv := hidF (show vcharI r = true by simp [vcharI, h1, h2])
      go_enter Tryd.func21, Tryd.ntmps21
      go_wp2
      go_ret
      exact ⟨by rw [hv.out]; rfl, rfl⟩
    · have d2 : decide (r ≤ 126) = false := decide_eq_false h2
      by_cases h3 : 128 ≤ r
      · have hv := hidF (show vcharI r = true by simp [vcharI, h3])
        clear h2
        go_enter Tryd.func21, Tryd.ntmps21
        go_wp2
        go_ret
        exact ⟨by rw [hv.out]; rfl, rfl⟩
      · have hv := hidF (show vcharI r = false by simp [vcharI, h2, h3])
        have d3 : decide (128 ≤ r) = false := decide_eq_false h3
        clear h2 h3
        go_enter Tryd.func21, Tryd.ntmps21
        go_wp2
        go_ret
        exact ⟨by rw [hv.out]; rfl, rfl⟩
  · have d1 : decide (33 ≤ r) = false := decide_eq_false h1
    have h3 : ¬ 128 ≤ r := by omega
    have hv := hidF (show vcharI r = false by simp [vcharI, h1, h3])
    have d3 : decide (128 ≤ r) = false := decide_eq_false h3
    clear h1 h3
    go_enter Tryd.func21, Tryd.ntmps21
    go_wp2
    go_ret
    exact ⟨by rw [hv.out]; rfl, rfl⟩

set_option maxHeartbeats 400000 in
theorem isAtext_any (r : Int) (dot : Bool) (w : World) :
    Calls Tryd.prog 19 #[.int .i32 r, .bool dot] w fun e w' => e = .returned (.bool (atextI r dot)) ∧ w = w' := by
  by_cases h46 : r = 46
  · subst h46
    have hv := hidF (show atextI 46 dot = dot by simp [atextI])
    go_enter Tryd.func19, Tryd.ntmps19
    go_wp2
    go_ret
    exact ⟨by rw [hv.out]; rfl, rfl⟩
  · by_cases hsp : specialI r = true
    · have hv := hidF (show atextI r dot = false by simp [atextI, h46, hsp])
      simp only [specialI, Bool.or_eq_true, beq_iff_eq] at hsp
      clear h46
      have hc : r = 40 ∨ r = 41 ∨ r = 60 ∨ r = 62 ∨ r = 91 ∨ r = 93 ∨ r = 58 ∨ r = 59 ∨ r = 64 ∨ r = 92 ∨ r = 44 ∨ r = 34 := by omega
      clear hsp
      rcases hc with rfl | rfl | rfl | rfl | rfl | rfl | rfl | rfl | rfl | rfl | rfl | rfl
      all_goals
        go_enter Tryd.func19, Tryd.ntmps19
        go_wp2
        go_ret
        exact ⟨by rw [hv.out]; rfl, rfl⟩
    · have hv := hidF (show atextI r dot = vcharI r by simp [atextI, h46, hsp])
      have g : ∀ k : Int, r ≠ k → (r == k) = false := fun k h => beq_eq_false_iff_ne.2 h
      have hsp2 : ¬ (r = 40 ∨ r = 41 ∨ r = 60 ∨ r = 62 ∨ r = 91 ∨ r = 93 ∨ r = 58 ∨ r = 59 ∨ r = 64 ∨ r = 92 ∨ r = 44 ∨ r = 34) := by
        intro e
        apply hsp
        simp only [specialI, Bool.or_eq_true, beq_iff_eq]
        omega
      have g0 := g 46 h46
      have g1 := g 40 (by omega)
      have g2 := g 41 (by omega)
      have g3 := g 60 (by omega)
      have g4 := g 62 (by omega)
      have g5 := g 91 (by omega)
      have g6 := g 93 (by omega)
      have g7 := g 58 (by omega)
      have g8 := g 59 (by omega)
      have g9 := g 64 (by omega)
      have g10 := g 92 (by omega)
      have g11 := g 44 (by omega)
      have g12 := g 34 (by omega)
      clear g hsp hsp2 h46
      go_enter Tryd.func19, Tryd.ntmps19
      go_wp2_with fail
      refine (isVchar_any r w).mono ?_
      rintro e w1 ⟨rfl, rfl⟩
      go_wp2_with fail
      go_ret
      exact ⟨by rw [hv.out]; rfl, rfl⟩

theorem atomSigns_row (w : World) : Row (w.alloc (.cells #[.int .u8 33, .int .u8 35, .int .u8 36, .int .u8 37, .int .u8 38, .int .u8 39, .int .u8 42, .int .u8 43, .int .u8 45, .int .u8 47, .int .u8 61, .int .u8 63, .int .u8 94, .int .u8 95, .int .u8 96, .int .u8 123, .int .u8 124, .int .u8 125, .int .u8 126] 5 (19, 20))) w.heap.size atomSigns := by
  intro j c hj
  match j, hj with
  | 0, hj | 1, hj | 2, hj | 3, hj | 4, hj | 5, hj | 6, hj | 7, hj | 8, hj | 9, hj | 10, hj | 11, hj | 12, hj | 13, hj | 14, hj | 15, hj | 16, hj | 17, hj | 18, hj =>
    simp [atomSigns] at hj
    subst hj
    exact ⟨World.cell?_alloc_mark _ _ _ _ _, World.frozen?_alloc_mark _ _ _ _ _ _⟩

set_option maxHeartbeats 1000000 in
theorem specIsAtom_any (c : UInt8) (w : World) :
    Calls Tryd.prog 17 #[.int .u8 (c.toNat : Int)] w fun e w' => e = .returned (.bool (atomC c)) ∧ Below w.heap.size w w' := by
  have hlt : c.toNat < 256 := c.toNat_lt
  by_cases hal : (48 ≤ c.toNat ∧ c.toNat ≤ 57) ∨ (97 ≤ c.toNat ∧ c.toNat ≤ 122) ∨ (65 ≤ c.toNat ∧ c.toNat ≤ 90) ∨ 128 ≤ c.toNat
  · have hv := hidF (show atomC c = true by
      rcases hal with h | h | h | h <;> simp [atomC, h])
    rcases hal with ⟨h1, h2⟩ | ⟨h1, h2⟩ | ⟨h1, h2⟩ | h1
    · have f1 : (48 : Int) ≤ (c.toNat : Int) := by omega
      have f2 : (c.toNat : Int) ≤ 57 := by omega
      clear h1 h2
      go_enter Tryd.func17, Tryd.ntmps17
      go_wp2
      go_ret
      exact ⟨by rw [hv.out]; rfl, Below.refl _ _⟩
    · have f1 : (97 : Int) ≤ (c.toNat : Int) := by omega
      have f2 : (c.toNat : Int) ≤ 122 := by omega
      have f3 : decide ((c.toNat : Int) ≤ 57) = false := decide_eq_false (by omega)
      clear h1 h2
      go_enter Tryd.func17, Tryd.ntmps17
      go_wp2
      go_ret
      exact ⟨by rw [hv.out]; rfl, Below.refl _ _⟩
    · have f1 : (65 : Int) ≤ (c.toNat : Int) := by omega
      have f2 : (c.toNat : Int) ≤ 90 := by omega
      have f3 : decide ((c.toNat : Int) ≤ 57) = false := decide_eq_false (by omega)
      have f4 : decide ((97 : Int) ≤ (c.toNat : Int)) = false := decide_eq_false (by omega)
      clear h1 h2
      go_enter Tryd.func17, Tryd.ntmps17
      go_wp2
      go_ret
      exact ⟨by rw [hv.out]; rfl, Below.refl _ _⟩
    · have f1 : (128 : Int) ≤ (c.toNat : Int) := by omega
      have f3 : decide ((c.toNat : Int) ≤ 57) = false := decide_eq_false (by omega)
      have f4 : decide ((c.toNat : Int) ≤ 122) = false := decide_eq_false (by omega)
      have f5 : decide ((c.toNat : Int) ≤ 90) = false := decide_eq_false (by omega)
      clear h1
      go_enter Tryd.func17, Tryd.ntmps17
      go_wp2
      go_ret
      exact ⟨by rw [hv.out]; rfl, Below.refl _ _⟩
  · have hv := hidF (show atomC c = atomSigns.any (fun x => c == x) by
      have a1 : ¬ (48 ≤ c.toNat ∧ c.toNat ≤ 57) := fun h => hal (.inl h)
      have a2 : ¬ (97 ≤ c.toNat ∧ c.toNat ≤ 122) := fun h => hal (.inr (.inl h))
      have a3 : ¬ (65 ≤ c.toNat ∧ c.toNat ≤ 90) := fun h => hal (.inr (.inr (.inl h)))
      have a4 : ¬ 128 ≤ c.toNat := fun h => hal (.inr (.inr (.inr h)))
      unfold atomC
      rw [← Bool.decide_and, ← Bool.decide_and, ← Bool.decide_and, decide_eq_false a1, decide_eq_false a2, decide_eq_false a3, decide_eq_false a4]
      rfl)
    have hway : ∃ (b1 b2 b3 : Bool), ((48 : Int) ≤ (c.toNat : Int) ∧ decide ((c.toNat : Int) ≤ 57) = false ∨ decide ((48 : Int) ≤ (c.toNat : Int)) = false) ∧ ((97 : Int) ≤ (c.toNat : Int) ∧ decide ((c.toNat : Int) ≤ 122) = false ∨ decide ((97 : Int) ≤ (c.toNat : Int)) = false) ∧ ((65 : Int) ≤ (c.toNat : Int) ∧ decide ((c.toNat : Int) ≤ 90) = false ∨ decide ((65 : Int) ≤ (c.toNat : Int)) = false) ∧ decide ((128 : Int) ≤ (c.toNat : Int)) = false := by
      refine ⟨true, true, true, ?_, ?_, ?_, ?_⟩
      · by_cases h : 48 ≤ c.toNat
        · exact .inl ⟨by omega, decide_eq_false (fun e => hal (.inl ⟨h, by omega⟩))⟩
        · exact .inr (decide_eq_false (by omega))
      · by_cases h : 97 ≤ c.toNat
        · exact .inl ⟨by omega, decide_eq_false (fun e => hal (.inr (.inl ⟨h, by omega⟩)))⟩
        · exact .inr (decide_eq_false (by omega))
      · by_cases h : 65 ≤ c.toNat
        · exact .inl ⟨by omega, decide_eq_false (fun e => hal (.inr (.inr (.inl ⟨h, by omega⟩))))⟩
        · exact .inr (decide_eq_false (by omega))
      · exact decide_eq_false (fun e => hal (.inr (.inr (.inr (by omega)))))
    obtain ⟨_, _, _, w1, w2, w3, w4⟩ := hway
    have hrow := atomSigns_row w
    obtain ⟨wa, hwa⟩ : ∃ wa, wa = w.alloc (.cells #[.int .u8 33, .int .u8 35, .int .u8 36, .int .u8 37, .int .u8 38, .int .u8 39, .int .u8 42, .int .u8 43, .int .u8 45, .int .u8 47, .int .u8 61, .int .u8 63, .int .u8 94, .int .u8 95, .int .u8 96, .int .u8 123, .int .u8 124, .int .u8 125, .int .u8 126] 5 (19, 20)) := ⟨_, rfl⟩
    rw [← hwa] at hrow
    have hbel : Below w.heap.size w wa := by rw [hwa]; exact (Below.refl _ w).alloc (Nat.le_refl _) _
    have Hwa := hidF hwa
    clear hal hwa
    have kc := fun (w : World) (C : Array Value) (n c : Nat) => Lib.run_convert_bytes_const (P := Tryd.prog) w 59 5 C n c Tryd.underlying59 Tryd.underlying5
    have main : ∀ _u : Unit, Calls Tryd.prog 17 #[.int .u8 (c.toNat : Int)] w fun e w' => e = .returned (.bool (atomC c)) ∧ Below w.heap.size w w' := by
      intro _
      rcases w1 with ⟨g1, g2⟩ | g1 <;> rcases w2 with ⟨g3, g4⟩ | g3 <;> rcases w3 with ⟨g5, g6⟩ | g5
      all_goals first
        | (exfalso; simp only [decide_eq_false_iff_not] at *; omega)
        | skip
      all_goals
        go_enter Tryd.func17, Tryd.ntmps17
        go_wp2
        rw [← Hwa.out]
        go_loop [34] (fun iv => ∃ k : Nat, k ≤ 19 ∧ iv = .int .i64 k ∧ Hid ((atomSigns.drop k).any (fun x => c == x) = atomSigns.any (fun x => c == x))) (fun iv => 19 - (intOf iv).toNat)
        case atStart => exact ⟨0, Nat.zero_le _, rfl, rfl⟩
        case round =>
          obtain ⟨k, hk, rfl, hany⟩ := hrel
          by_cases hkl : k < 19
          · have hget : atomSigns[k]? = some (atomSigns[k]'hkl) := List.getElem?_eq_getElem hkl
            obtain ⟨x, hx⟩ : ∃ x, x = atomSigns[k]'hkl := ⟨_, rfl⟩
            rw [← hx] at hget
            have hcell := hrow.cell hget
            have hd : atomSigns.drop k = x :: atomSigns.drop (k + 1) := by rw [List.drop_eq_getElem_cons hkl, hx]
            have Hd := hidF hd
            have hki : (k : Int) < 19 := by omega
            clear hx hget hd
            by_cases hcx : c = x
            · have f1 : ((c.toNat : Int) == (x.toNat : Int)) = true := by rw [hcx]; exact beq_self_eq_true _
              have hyes := hidF (show atomC c = true by rw [hv.out, ← hany.out, Hd.out, List.any_cons, hcx]; simp)
              clear hcx
              go_wp2
              go_ret
              exact ⟨by rw [hyes.out]; rfl, hbel⟩
            · have f1 : ((c.toNat : Int) == (x.toNat : Int)) = false := by rw [beq_eq_false_iff_ne]; intro e; exact hcx (UInt8.toNat_inj.1 (by omega))
              have hno := hidF (show (atomSigns.drop (k + 1)).any (fun x => c == x) = atomSigns.any (fun x => c == x) by rw [← hany.out, Hd.out, List.any_cons, beq_eq_false_iff_ne.2 hcx, Bool.false_or])
              clear hcx
              go_wp2
              go_round
              case rel => exact ⟨k + 1, by omega, by go_num, hno.out⟩
              case measure => simp [intOf]; omega
          · obtain rfl : k = 19 := by omega
            have hno := hidF (show atomC c = false by rw [hv.out, ← hany.out]; rfl)
            go_wp2
            go_ret
            exact ⟨by rw [hno.out]; rfl, hbel⟩
    exact main ()

end Go.Proofs.YtolbedmmjennoaaDoor
