/- netip.parseIPv4Fields over four numbers: the walk. -/
import Derived.Test.YtolbedmmjennoaaDoorScan
import Derived.Test.YtolbedmmjennoaaDoorBase
import Derived.Deep.QuietTactic
import Derived.BigQuiet
import Derived.Outline
namespace Go.Proofs.YtolbedmmjennoaaDoor
open Go.RowKit

/-- The block of the four numbers. -/
def FAt (f : Nat) (w : World) : Prop := ∃ a b c d : Int, w.heap[f]? = some (.cells #[.int .u8 a, .int .u8 b, .int .u8 c, .int .u8 d] 28 (0, 0))
theorem FAt.at {f : Nat} {w : World} (h : FAt f w) (k : Nat) (hk : k < 4) : (∃ x : Int, w.cell? ⟨f, k, none⟩ = some (.int .u8 x)) ∧ w.frozen? ⟨f, k, none⟩ = false := by
  obtain ⟨a, b, c, d, h⟩ := h
  refine ⟨?_, by simp [World.frozen?, h]⟩
  match k, hk with
  | 0, _ => exact ⟨a, by simp [World.cell?, h]⟩
  | 1, _ => exact ⟨b, by simp [World.cell?, h]⟩
  | 2, _ => exact ⟨c, by simp [World.cell?, h]⟩
  | 3, _ => exact ⟨d, by simp [World.cell?, h]⟩
theorem FAt.set {f : Nat} {w : World} (h : FAt f w) (k : Nat) (hk : k < 4) (x : Int) : FAt f (w.setCell ⟨f, k, none⟩ (.int .u8 x)) := by
  obtain ⟨a, b, c, d, h⟩ := h
  match k, hk with
  | 0, _ => exact ⟨x, b, c, d, by simp [World.setCell, Array.getElem?_modify, h]⟩
  | 1, _ => exact ⟨a, x, c, d, by simp [World.setCell, Array.getElem?_modify, h]⟩
  | 2, _ => exact ⟨a, b, x, d, by simp [World.setCell, Array.getElem?_modify, h]⟩
  | 3, _ => exact ⟨a, b, c, x, by simp [World.setCell, Array.getElem?_modify, h]⟩
theorem FAt.lt {f : Nat} {w : World} (h : FAt f w) : f < w.heap.size := by
  obtain ⟨a, b, c, d, h⟩ := h
  exact (Array.getElem?_eq_some_iff.1 h).1
theorem FAt.drew {f : Nat} {w : World} (h : FAt f w) : FAt f w.drew := h
theorem grown_setAt (w : World) (b k : Nat) (v : Value) : w.grownBy (w.setCell ⟨b, k, none⟩ v) (some b) :=
  ⟨rfl, rfl, rfl, by simp [World.setCell], fun j _ hj => Below.heap_setCell _ _ _ _ (fun e => hj (by simp [e]))⟩
theorem grown_drew {w w' : World} {row : Option Nat} (h : w.grownBy w' row) : w.grownBy w'.drew row := ⟨h.os, h.tape, h.output, h.size, h.block⟩

theorem scan_digit (c : UInt8) (r : List UInt8) (val dig pos : Nat) (hd : digB c = true) (h : scan (c :: r) val dig pos = true) :
    ¬ (dig = 1 ∧ val = 0) ∧ val * 10 + (c.toNat - 48) ≤ 255 ∧ scan r (val * 10 + (c.toNat - 48)) (dig + 1) pos = true := by
  rw [scan, if_pos hd] at h
  simp only [Bool.and_eq_true, decide_eq_true_eq, Bool.not_eq_true', Bool.and_eq_false_iff, beq_eq_false_iff_ne] at h
  refine ⟨?_, h.2.1, h.2.2⟩
  rintro ⟨e1, e2⟩
  rcases h.1 with h | h <;> omega
theorem scan_other (c : UInt8) (r : List UInt8) (val dig pos : Nat) (hd : digB c = false) (h : scan (c :: r) val dig pos = true) :
    c = 46 ∧ 0 < dig ∧ r ≠ [] ∧ pos < 3 ∧ scan r 0 0 (pos + 1) = true := by
  rw [scan, if_neg (by rw [hd]; simp)] at h
  simp only [Bool.and_eq_true, decide_eq_true_eq, beq_iff_eq, Bool.not_eq_true', List.isEmpty_eq_false_iff] at h
  exact ⟨h.1.1, h.1.2.1, h.1.2.2.1, h.1.2.2.2, h.2⟩

set_option maxHeartbeats 400000 in
set_option maxRecDepth 100000 in
theorem fields_any (t : ByteArray) (f : Nat) (w : World) (ht : t.size ≤ 100) (hf : FAt f w) (hsc : scan t.data.toList 0 0 0 = true) :
    Calls Tryd.prog 90 #[.string t, .int .i64 0, .int .i64 t.size, .slice (some ⟨f, 0, none⟩) 4 4] w fun e w' => e = .returned .nilIface ∧ FAt f w' ∧ w.grownBy w' (some f) := by
  have Hs := hidF hsc
  clear hsc
  have hxt : t.extract 0 t.size = t := by rw [ByteArray.extract_zero_size]
  go_enter Tryd.func90, Tryd.ntmps90
  go_wp2_with fail
  go_loopw [9, 10, 11, 13] (fun v9 v10 v11 v13 wr => ∃ k val dig pos : Nat, k ≤ t.size ∧ v13 = .int .i64 k ∧ v9 = .int .i64 val ∧ v10 = .int .i64 pos ∧ v11 = .int .i64 dig ∧ val ≤ 255 ∧ pos ≤ 3 ∧ dig ≤ k ∧ Hid (scan (t.data.toList.drop k) val dig pos = true) ∧ Hid (0 < dig → ∀ c, t.data.toList[k - 1]? = some c → c ≠ 46) ∧ FAt f wr ∧ w.grownBy wr (some f)) (fun _ _ _ v13 _ => t.size - (intOf v13).toNat)
  case atStart => exact ⟨0, 0, 0, 0, Nat.zero_le _, rfl, rfl, rfl, rfl, by omega, by omega, by omega, by rw [List.drop_zero]; exact Hs, hidF (fun h => by omega), hf, grown_refl _ _⟩
  case round =>
    obtain ⟨k, val, dig, pos, hk, rfl, rfl, rfl, rfl, hval, hpos, hdig, hS, hP, hF, hG⟩ := hrel
    by_cases hlt : k < t.size
    · have hd := drop_cons t k hlt
      have hz : (k : Int) < (t.size : Int) := by omega
      have hS' := hS.out
      rw [hd] at hS'
      by_cases hdg : digB t[k] = true
      · obtain ⟨h1, h2, h3⟩ := scan_digit _ _ _ _ _ hdg hS'
        have hg : 48 ≤ t[k].toNat ∧ t[k].toNat ≤ 57 := by simpa [digB] using hdg
        have g1 : (48 : Int) ≤ (t[k].toNat : Int) := by omega
        have g2 : (t[k].toNat : Int) ≤ 57 := by omega
        have g3 : ¬ (255 : Int) < (val : Int) * 10 + (t[k].toNat : Int) - 48 := by omega
        have H3 := hidF h3
        have hne := hidF (show ∀ c, t.data.toList[k + 1 - 1]? = some c → c ≠ 46 by
          intro c hc
          rw [Nat.add_sub_cancel, get_of t k hlt] at hc
          rw [← Option.some.inj hc]
          intro e
          rw [e] at hg
          exact absurd hg.1 (by decide))
        clear hS' hS hP hd h3 hdg
        by_cases hd1 : dig = 1
        · have b1 : ((dig : Int) == 1) = true := beq_iff_eq.2 (by omega)
          have b2 : ((val : Int) == 0) = false := beq_eq_false_iff_ne.2 (by omega)
          have Hd1 := hidF hd1
          clear hd1 h1
          go_wp2_with fail
          go_roundw
          case rel => exact ⟨k + 1, val * 10 + (t[k].toNat - 48), dig + 1, pos, hlt, by go_num, by congr 1; omega, rfl, by go_num, h2, hpos, by omega, H3, hidF fun _ => hne.out, hF, hG⟩
          case measure => simp [intOf]; omega
        · have b1 : ((dig : Int) == 1) = false := beq_eq_false_iff_ne.2 (by omega)
          clear h1
          go_wp2_with fail
          go_roundw
          case rel => exact ⟨k + 1, val * 10 + (t[k].toNat - 48), dig + 1, pos, hlt, by go_num, by congr 1; omega, rfl, by go_num, h2, hpos, by omega, H3, hidF fun _ => hne.out, hF, hG⟩
          case measure => simp [intOf]; omega
      · have hdg' : digB t[k] = false := by simpa using hdg
        obtain ⟨h1, h2, h3, h4, h5⟩ := scan_other _ _ _ _ _ hdg' hS'
        have hk0 : 0 < k := by omega
        have hprev := hP.out h2
        have hk1 : k - 1 < t.size := by omega
        have hpv : t[k - 1] ≠ 46 := hprev _ (get_of t (k - 1) hk1)
        have hlast : k + 1 < t.size := by
          apply Classical.byContradiction
          intro hn
          exact h3 (drop_end t (k + 1) hn)
        have e0 : t[k].toNat = 46 := by rw [h1]; rfl
        have g1 : ¬ (48 : Int) ≤ (t[k].toNat : Int) := by omega
        have g2 : ((t[k].toNat : Int) == 46) = true := beq_iff_eq.2 (by omega)
        have g3 : ((k : Int) == 0) = false := beq_eq_false_iff_ne.2 (by omega)
        have g4 : ((k : Int) == (t.size : Int) - 1) = false := beq_eq_false_iff_ne.2 (by omega)
        have g5 : ((t[k - 1].toNat : Int) == 46) = false := beq_eq_false_iff_ne.2 (by
          intro e
          apply hpv
          apply UInt8.toNat_inj.1
          have : (46 : UInt8).toNat = 46 := rfl
          omega)
        have g6 : ((pos : Int) == 3) = false := beq_eq_false_iff_ne.2 (by omega)
        have i1 : (0 : Int) ≤ (k : Int) - 1 := by omega
        have i2 : (1 : Int) ≤ (k : Int) := by omega
        have i3 : ((k : Int) - 1).toNat = k - 1 := by omega
        have i4 : (k : Int) - 1 < (t.size : Int) := by omega
        obtain ⟨⟨x, hx⟩, hfz⟩ := hF.at pos (by omega)
        have H5 := hidF h5
        clear hS' hS hP hd h5 hdg hdg' h1 h3 hprev hpv e0
        go_wp2_with fail
        go_roundw
        case rel => exact ⟨k + 1, 0, 0, pos + 1, hlt, by go_num, rfl, by go_num, rfl, by omega, by omega, by omega, H5, hidF fun h => by omega, hF.set pos (by omega) _, grown_trans hG (grown_setAt _ _ _ _)⟩
        case measure => simp [intOf]; omega
    · have hz : ¬ (k : Int) < (t.size : Int) := by omega
      have hS' := hS.out
      rw [drop_end t k hlt] at hS'
      have hp3 : pos = 3 := by simpa [scan] using hS'
      have g1 : ¬ (pos : Int) < 3 := by omega
      obtain ⟨⟨x, hx⟩, hfz⟩ := hF.at 3 (by omega)
      clear hS' hS hP hp3
      go_wp2_with fail
      go_ret
      exact ⟨rfl, hF.set 3 (by omega) _, grown_trans hG (grown_setAt _ _ _ _)⟩
end Go.Proofs.YtolbedmmjennoaaDoor
