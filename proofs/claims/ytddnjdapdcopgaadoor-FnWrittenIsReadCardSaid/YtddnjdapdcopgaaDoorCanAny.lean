/- canonicalMIMEHeaderKey and CanonicalMIMEHeaderKey of any bytes: some text of the same size. Printed by wip/gen/canany.py. -/
import Derived.Test.YtddnjdapdcopgaaDoorCanonKey
import Derived.Test.YtddnjdapdcopgaaDoorVAny
namespace Go.Proofs.YtddnjdapdcopgaaDoor
open Go.RowKit

def CanOut (n : Nat) (e : Ending) : Prop := ∃ l' ok, e = .returned (.tuple #[.string (mkB l'), .bool ok]) ∧ l'.length = n

set_option maxHeartbeats 1000000 in
set_option maxRecDepth 100000 in
theorem canonInner_any (l : List UInt8) (B n cap : Nat) (w : World) (hr0 : Row w B l) (hB : B < w.heap.size) (hn : l.length = n) (hs : n ≤ 2147483647) (hcap : n ≤ cap) (hcap2 : cap ≤ 9223372036854775807) :
    Calls Tryd.prog 39 #[.slice (some ⟨B, 0, none⟩) n cap] w fun e w' => CanOut n e ∧ Below B w w' := by
  have Hn := hidF hn
  clear hn
  go_enter Tryd.func39, Tryd.ntmps39
  by_cases h0 : n = 0
  · subst h0
    go_wp2_with fail
    go_ret2
    exact ⟨⟨[], false, rfl, rfl⟩, Below.refl _ _⟩
  have e0 : ((n : Int) == 0) = false := beq_eq_false_iff_ne.2 (by omega)
  have hback := hr0.back cap
  rw [Hn.out] at hback
  go_wp2
  go_loop [4, 15] (fun nv iv => ∃ (k : Nat) (nb : Bool), k ≤ n ∧ nv = .bool nb ∧ iv = .int .i64 k) (fun _ iv => n - (intOf iv).toNat)
  case atStart => exact ⟨0, false, Nat.zero_le _, rfl, rfl⟩
  case round =>
    obtain ⟨k, nb, hk, rfl, rfl⟩ := hrel
    by_cases hkl : k < n
    · have hkl' : k < l.length := by rw [Hn.out]; exact hkl
      have hget := List.getElem?_eq_getElem hkl'
      obtain ⟨c, hc⟩ : ∃ c, c = l[k] := ⟨_, rfl⟩
      rw [← hc] at hget
      have hcell := hr0.cell hget
      have hv := hidF (valid_any c w)
      clear hget hc hkl'
      go_wp2_with fail
      refine hv.out.mono ?_
      rintro e w1 ⟨⟨bb, rfl⟩, rfl⟩
      clear hv
      cases bb with
      | true =>
        go_wp2_with fail
        go_round
        case rel => exact ⟨k + 1, nb, by omega, rfl, by go_num⟩
        case measure => simp [intOf]; omega
      | false =>
        by_cases h32 : c = 32
        · have e32 : ((c.toNat : Int) == 32) = true := by rw [h32]; rfl
          clear h32
          go_wp2_with fail
          go_round
          case rel => exact ⟨k + 1, true, by omega, rfl, by go_num⟩
          case measure => simp [intOf]; omega
        · have e32 : ((c.toNat : Int) == 32) = false := beq_eq_false_iff_ne.2 (fun e => h32 (UInt8.toNat_inj.1 (by have : (32 : UInt8).toNat = 32 := rfl; omega)))
          clear h32
          go_wp2_with fail
          go_ret2
          exact ⟨⟨l, false, rfl, Hn.out⟩, Below.refl _ _⟩
    · obtain rfl : k = n := by omega
      cases nb with
      | true =>
        go_wp2_with fail
        go_ret2
        exact ⟨⟨l, true, rfl, Hn.out⟩, Below.refl _ _⟩
      | false =>
      clear hback
      go_wp2_with fail
      go_loopw [7, 31] (fun uv iv wr => ∃ (u : Bool) (j : Nat) (l' : List UInt8), uv = .bool u ∧ iv = .int .i64 j ∧ j ≤ k ∧ l'.length = k ∧ Row wr B l' ∧ Below B w wr) (fun _ iv _ => k - (intOf iv).toNat)
      case atStart => exact ⟨true, 0, l, rfl, rfl, Nat.zero_le _, Hn.out, hr0, Below.refl _ _⟩
      case round =>
        obtain ⟨u, j, l', rfl, rfl, hj, hl', hr, hb⟩ := hrel
        by_cases hjl : j < k
        · have hjl' : j < l'.length := by rw [hl']; exact hjl
          have hget := List.getElem?_eq_getElem hjl'
          have hcell := hr.cell hget
          have hfree := hr.free hget
          obtain ⟨c, hc⟩ : ∃ c, c = l'[j] := ⟨_, rfl⟩
          rw [← hc] at hget hcell
          have hrn := Row.set hr j (canC u c)
          have hln : (l'.set j (canC u c)).length = k := by rw [List.length_set]; exact hl'
          have hbn := hb.setCell (p := ⟨B, j, none⟩) (Nat.le_refl _) (.int .u8 ((canC u c).toNat : Int))
          have hto := canC_toNat u c
          clear hget hc hr hb hjl' hl'
          cases u with
          | true =>
            by_cases h1 : 97 ≤ c.toNat
            · have f1 : (97 : Int) ≤ (c.toNat : Int) := by omega
              by_cases h2 : c.toNat ≤ 122
              · have f2 : (c.toNat : Int) ≤ 122 := by omega
                have e1 : ((canC true c).toNat : Int) = (c.toNat : Int) - 32 := by rw [hto, if_pos ⟨rfl, h1, h2⟩]; omega
                rw [e1] at hrn hbn
                have Hrn := hidF hrn
                have Hbn := hidF hbn
                have Hl := hidF hln
                clear hto e1 hrn hbn hln h1 h2
                go_wp2
                go_roundw
                case rel => exact ⟨_, j + 1, _, rfl, by go_num, by omega, Hl.out, Hrn.out, Hbn.out⟩
                case measure => simp [intOf]; omega
              · have f2 : decide ((c.toNat : Int) ≤ 122) = false := decide_eq_false (by omega)
                have e1 : ((canC true c).toNat : Int) = (c.toNat : Int) := by rw [hto, if_neg (fun h => h2 h.2.2), if_neg (fun h => absurd h.1 (by decide))]
                rw [e1] at hrn hbn
                have Hrn := hidF hrn
                have Hbn := hidF hbn
                have Hl := hidF hln
                clear hto e1 hrn hbn hln h1 h2
                go_wp2
                go_roundw
                case rel => exact ⟨_, j + 1, _, rfl, by go_num, by omega, Hl.out, Hrn.out, Hbn.out⟩
                case measure => simp [intOf]; omega
            · have f1 : decide ((97 : Int) ≤ (c.toNat : Int)) = false := decide_eq_false (by omega)
              have e1 : ((canC true c).toNat : Int) = (c.toNat : Int) := by rw [hto, if_neg (fun h => h1 h.2.1), if_neg (fun h => absurd h.1 (by decide))]
              rw [e1] at hrn hbn
              have Hrn := hidF hrn
              have Hbn := hidF hbn
              have Hl := hidF hln
              clear hto e1 hrn hbn hln h1
              go_wp2
              go_roundw
              case rel => exact ⟨_, j + 1, _, rfl, by go_num, by omega, Hl.out, Hrn.out, Hbn.out⟩
              case measure => simp [intOf]; omega
          | false =>
            by_cases h1 : 65 ≤ c.toNat
            · have f1 : (65 : Int) ≤ (c.toNat : Int) := by omega
              by_cases h2 : c.toNat ≤ 90
              · have f2 : (c.toNat : Int) ≤ 90 := by omega
                have e1 : ((canC false c).toNat : Int) = (c.toNat : Int) + 32 := by rw [hto, if_neg (fun h => absurd h.1 (by decide)), if_pos ⟨rfl, h1, h2⟩]; omega
                rw [e1] at hrn hbn
                have Hrn := hidF hrn
                have Hbn := hidF hbn
                have Hl := hidF hln
                clear hto e1 hrn hbn hln h1 h2
                go_wp2
                go_roundw
                case rel => exact ⟨_, j + 1, _, rfl, by go_num, by omega, Hl.out, Hrn.out, Hbn.out⟩
                case measure => simp [intOf]; omega
              · have f2 : decide ((c.toNat : Int) ≤ 90) = false := decide_eq_false (by omega)
                have e1 : ((canC false c).toNat : Int) = (c.toNat : Int) := by rw [hto, if_neg (fun h => absurd h.1 (by decide)), if_neg (fun h => h2 h.2.2)]
                rw [e1] at hrn hbn
                have Hrn := hidF hrn
                have Hbn := hidF hbn
                have Hl := hidF hln
                clear hto e1 hrn hbn hln h1 h2
                go_wp2
                go_roundw
                case rel => exact ⟨_, j + 1, _, rfl, by go_num, by omega, Hl.out, Hrn.out, Hbn.out⟩
                case measure => simp [intOf]; omega
            · have f1 : decide ((65 : Int) ≤ (c.toNat : Int)) = false := decide_eq_false (by omega)
              have e1 : ((canC false c).toNat : Int) = (c.toNat : Int) := by rw [hto, if_neg (fun h => absurd h.1 (by decide)), if_neg (fun h => h1 h.2.1)]
              rw [e1] at hrn hbn
              have Hrn := hidF hrn
              have Hbn := hidF hbn
              have Hl := hidF hln
              clear hto e1 hrn hbn hln h1
              go_wp2
              go_roundw
              case rel => exact ⟨_, j + 1, _, rfl, by go_num, by omega, Hl.out, Hrn.out, Hbn.out⟩
              case measure => simp [intOf]; omega
        · obtain rfl : j = k := by omega
          have hback := hr.back cap
          rw [hl'] at hback
          go_wp2
          go_ret2
          exact ⟨⟨l', true, rfl, hl'⟩, hb⟩

set_option maxHeartbeats 1000000 in
set_option maxRecDepth 100000 in
theorem canonKey_any (s : ByteArray) (w : World) (hs : s.size ≤ 2147483647) :
    Calls Tryd.prog 29 #[.string s] w fun e w' => (∃ s' : ByteArray, e = .returned (.string s') ∧ s'.size = s.size) ∧ Below w.heap.size w w' := by
  have Hsz := hidF (show s.data.toList.length = s.size by rw [Array.length_toList]; rfl)
  obtain ⟨cap, w1, hconv, hc1, hc2, hrow, hbel, hlt⟩ := bytes_of s w (by unfold maxLen; omega)
  have Hconv := hidF hconv
  clear hconv
  go_enter Tryd.func29, Tryd.ntmps29
  go_wp2
  go_loop [0, 3, 4] (fun sv uv iv => ∃ (u : Bool) (k : Nat), sv = .string s ∧ uv = .bool u ∧ iv = .int .i64 k ∧ k ≤ s.size) (fun _ _ iv => s.size - (intOf iv).toNat)
  case atStart => exact ⟨true, 0, rfl, rfl, rfl, Nat.zero_le _⟩
  case round =>
    obtain ⟨u, k, rfl, rfl, rfl, hk⟩ := hrel
    by_cases hkl : k < s.size
    · have hget := get_of s k hkl
      obtain ⟨c, hc⟩ : ∃ c, c = s[k] := ⟨_, rfl⟩
      have hci : (s[k].toNat : Int) = (c.toNat : Int) := by rw [hc]
      have hv := hidF (valid_any c w)
      clear hget hc
      have hinner := hidF (fun (W : World) (hrw : Row W w.heap.size s.data.toList) (hl : w.heap.size < W.heap.size) => canonInner_any s.data.toList w.heap.size s.size cap W hrw hl Hsz.out hs hc1 hc2)
      go_wp2_with fail
      refine hv.out.mono ?_
      rintro e w2 ⟨⟨bb, rfl⟩, rfl⟩
      clear hv
      cases bb with
      | false =>
        go_wp2_with fail
        go_ret
        exact ⟨⟨s, rfl, rfl⟩, Below.refl _ _⟩
      | true =>
      cases u with
      | true =>
        by_cases h1 : 97 ≤ c.toNat
        · have f1 : (97 : Int) ≤ (c.toNat : Int) := by omega
          by_cases h2 : c.toNat ≤ 122
          · have f2 : (c.toNat : Int) ≤ 122 := by omega
            clear h1 h2
            have hconv := Hconv.out
            go_wp2_with fail
            refine (hinner.out _ hrow hlt).mono ?_
            rintro e w2 ⟨⟨l', ok, rfl, hl'⟩, hb2⟩
            clear hconv
            go_wp2_with fail
            go_ret
            exact ⟨⟨mkB l', rfl, by rw [← hl']; rfl⟩, hbel.trans hb2⟩
          · have f2 : decide ((c.toNat : Int) ≤ 122) = false := decide_eq_false (by omega)
            clear h1 h2
            go_wp2_with fail
            go_round
            case rel => exact ⟨_, k + 1, rfl, rfl, by go_num, by omega⟩
            case measure => simp [intOf]; omega
        · have f1 : decide ((97 : Int) ≤ (c.toNat : Int)) = false := decide_eq_false (by omega)
          clear h1
          go_wp2_with fail
          go_round
          case rel => exact ⟨_, k + 1, rfl, rfl, by go_num, by omega⟩
          case measure => simp [intOf]; omega
      | false =>
        by_cases h1 : 65 ≤ c.toNat
        · have f1 : (65 : Int) ≤ (c.toNat : Int) := by omega
          by_cases h2 : c.toNat ≤ 90
          · have f2 : (c.toNat : Int) ≤ 90 := by omega
            clear h1 h2
            have hconv := Hconv.out
            go_wp2_with fail
            refine (hinner.out _ hrow hlt).mono ?_
            rintro e w2 ⟨⟨l', ok, rfl, hl'⟩, hb2⟩
            clear hconv
            go_wp2_with fail
            go_ret
            exact ⟨⟨mkB l', rfl, by rw [← hl']; rfl⟩, hbel.trans hb2⟩
          · have f2 : decide ((c.toNat : Int) ≤ 90) = false := decide_eq_false (by omega)
            clear h1 h2
            go_wp2_with fail
            go_round
            case rel => exact ⟨_, k + 1, rfl, rfl, by go_num, by omega⟩
            case measure => simp [intOf]; omega
        · have f1 : decide ((65 : Int) ≤ (c.toNat : Int)) = false := decide_eq_false (by omega)
          clear h1
          go_wp2_with fail
          go_round
          case rel => exact ⟨_, k + 1, rfl, rfl, by go_num, by omega⟩
          case measure => simp [intOf]; omega
    · go_wp2_with fail
      go_ret
      exact ⟨⟨s, rfl, rfl⟩, Below.refl _ _⟩
end Go.Proofs.YtddnjdapdcopgaaDoor
