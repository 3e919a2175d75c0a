/- spec.Dotted: the walk. -/
import Derived.Test.YtolbedmmjennoaaDoorAtomLaw
namespace Go.Proofs.YtolbedmmjennoaaDoor
open Go.RowKit

/-- Is the rest one of atoms of ASCII with points between them? before: a point or the beginning stands ahead of it. -/
def dotStep : Bool → List UInt8 → Bool
  | before, [] => !before
  | before, c :: r => if c = 46 then !before && dotStep true r else atomC c && decide (c.toNat < 128) && dotStep false r

def dottedL (l : List UInt8) : Bool := dotStep true l

/-- Stands a point, or the beginning, ahead of this place? -/
def pv (l : List UInt8) : Nat → Bool
  | 0 => true
  | k + 1 => l[k]? == some 46

set_option maxHeartbeats 2000000 in
set_option maxRecDepth 10000 in
theorem dotted_any (s : ByteArray) (w : World) (hs : s.size ≤ 2147483647) :
    Calls Tryd.prog 12 #[.string s] w fun e w' => e = .returned (.bool (dottedL s.data.toList)) ∧ Below w.heap.size w w' := by
  have Hsl := hidF (size_of_list s)
  go_enter Tryd.func12, Tryd.ntmps12
  go_wp2_with fail
  go_loopw [6] (fun iv wr => ∃ k : Nat, k ≤ s.size ∧ iv = .int .i64 k ∧ Below w.heap.size w wr ∧ Hid (dottedL s.data.toList = dotStep (pv s.data.toList k) (s.data.toList.drop k)) ∧ Hid (k = 0 ∨ k < s.size ∨ pv s.data.toList k = false)) (fun iv _ => s.size - (intOf iv).toNat)
  case atStart => exact ⟨0, Nat.zero_le _, rfl, Below.refl _ _, by rw [List.drop_zero]; rfl, .inl rfl⟩
  case round =>
    obtain ⟨k, hk, rfl, hb, hst, hend⟩ := hrel
    by_cases hlt : k < s.size
    · have hz : (k : Int) < (s.size : Int) := by omega
      have hdr := hidF (drop_cons s k hlt)
      have hgk := hidF (get_of s k hlt)
      by_cases h46 : s[k] = 46
      · have hc46 : ((s[k].toNat : Int) == 46) = true := by rw [h46]; rfl
        have hst2 := hidF (show dottedL s.data.toList = (!(pv s.data.toList k) && dotStep true (s.data.toList.drop (k + 1))) by
          rw [hst.out, hdr.out, h46]; rfl)
        have hpv := hidF (show pv s.data.toList (k + 1) = true by show (s.data.toList[k]? == some 46) = true; rw [hgk.out, h46]; rfl)
        clear h46
        by_cases hk0 : k = 0
        · have hres := hidF (show dottedL s.data.toList = false by rw [hst2.out, hk0]; rfl)
          subst hk0
          clear hst2 hpv hst hend hdr hgk
          go_wp2_with fail
          go_ret
          exact ⟨by rw [hres.out]; rfl, hb⟩
        · obtain ⟨j, rfl⟩ : ∃ j, k = j + 1 := ⟨k - 1, by omega⟩
          have g0 : (((j : Nat) : Int) + 1 == 0) = false := beq_eq_false_iff_ne.2 (by omega)
          have hj : j < s.size := by omega
          have hgj := hidF (get_of s j hj)
          clear hk0
          by_cases hlast : j + 1 = s.size - 1
          · have g1 : (((j : Nat) : Int) + 1 == (s.size : Int) - 1) = true := beq_iff_eq.2 (by omega)
            have hres := hidF (show dottedL s.data.toList = false by rw [hst2.out, drop_end s (j + 1 + 1) (by omega)]; simp [dotStep])
            clear hst2 hpv hst hend hdr hgk hgj hlast
            go_wp2_with fail
            go_ret
            exact ⟨by rw [hres.out]; rfl, hb⟩
          · have g1 : (((j : Nat) : Int) + 1 == (s.size : Int) - 1) = false := beq_eq_false_iff_ne.2 (by omega)
            have hend2 := hidF (show j + 1 + 1 < s.size by omega)
            clear hlast hend
            by_cases hp46 : s[j] = 46
            · have g2 : ((s[j].toNat : Int) == 46) = true := by rw [hp46]; rfl
              have hres := hidF (show dottedL s.data.toList = false by
                rw [hst2.out, show pv s.data.toList (j + 1) = true by show (s.data.toList[j]? == some 46) = true; rw [hgj.out, hp46]; rfl]; rfl)
              clear hst2 hpv hst hdr hgk hgj hp46
              go_wp2_with fail
              go_ret
              exact ⟨by rw [hres.out]; rfl, hb⟩
            · have g2 : ((s[j].toNat : Int) == 46) = false := beq_eq_false_iff_ne.2 (fun e => hp46 (UInt8.toNat_inj.1 (by have : (46 : UInt8).toNat = 46 := rfl; omega)))
              have hst3 := hidF (show dottedL s.data.toList = dotStep (pv s.data.toList (j + 1 + 1)) (s.data.toList.drop (j + 1 + 1)) by
                rw [hst2.out, hpv.out, show pv s.data.toList (j + 1) = false by show (s.data.toList[j]? == some 46) = false; rw [hgj.out]; simpa using hp46]; rfl)
              clear hst2 hpv hst hdr hgk hgj hp46
              go_wp2_with fail
              go_roundw
              case rel => exact ⟨j + 1 + 1, by omega, by go_num, hb, hst3.out, .inr (.inl hend2.out)⟩
              case measure => simp [intOf]; omega
      · have hc46 : ((s[k].toNat : Int) == 46) = false := beq_eq_false_iff_ne.2 (fun e => h46 (UInt8.toNat_inj.1 (by have : (46 : UInt8).toNat = 46 := rfl; omega)))
        have hst2 := hidF (show dottedL s.data.toList = (atomC s[k] && decide (s[k].toNat < 128) && dotStep false (s.data.toList.drop (k + 1))) by
          rw [hst.out, hdr.out]
          show (if s[k] = 46 then _ else _) = _
          rw [if_neg h46])
        have hpv := hidF (show pv s.data.toList (k + 1) = false by show (s.data.toList[k]? == some 46) = false; rw [hgk.out]; simpa using h46)
        have hat := hidF (specIsAtom_any s[k] wr)
        clear h46 hst hend hdr hgk
        go_wp2_with fail
        refine hat.out.mono ?_
        rintro e w2 ⟨rfl, hb2⟩
        have hb2 := hb.trans (hb2.mono hb.size)
        clear hat
        cases hc : atomC s[k] with
        | false =>
          have hres := hidF (show dottedL s.data.toList = false by rw [hst2.out, hc]; rfl)
          clear hc hst2 hpv
          go_wp2_with fail
          go_ret
          exact ⟨by rw [hres.out]; rfl, hb2⟩
        | true =>
          by_cases h128 : s[k].toNat < 128
          · have g1 : decide ((128 : Int) ≤ (s[k].toNat : Int)) = false := decide_eq_false (by omega)
            have hst3 := hidF (show dottedL s.data.toList = dotStep (pv s.data.toList (k + 1)) (s.data.toList.drop (k + 1)) by
              rw [hst2.out, hc, decide_eq_true h128, hpv.out]; rfl)
            clear hc hst2 h128
            go_wp2_with fail
            go_roundw
            case rel => exact ⟨k + 1, by omega, by go_num, hb2, hst3.out, .inr (.inr hpv.out)⟩
            case measure => simp [intOf]; omega
          · have g1 : (128 : Int) ≤ (s[k].toNat : Int) := by omega
            have hres := hidF (show dottedL s.data.toList = false by rw [hst2.out, decide_eq_false h128]; simp)
            clear hc hst2 hpv h128
            go_wp2_with fail
            go_ret
            exact ⟨by rw [hres.out]; rfl, hb2⟩
    · have hz : ¬ (k : Int) < (s.size : Int) := by omega
      have hks : k = s.size := by omega
      have hres := hidF (show dottedL s.data.toList = decide (0 < s.size) by
        rw [hst.out, drop_end s k hlt]
        rcases hend.out with h | h | h
        · rw [← hks, h]; rfl
        · omega
        · show (!(pv s.data.toList k)) = _
          rw [h]
          cases hs0 : s.size with
          | zero => rw [hks, hs0] at h; cases h
          | succ n => simp)
      clear hst hend hks
      go_wp2_with fail
      go_ret
      exact ⟨by rw [hres.out]; simp, hb⟩
end Go.Proofs.YtolbedmmjennoaaDoor
