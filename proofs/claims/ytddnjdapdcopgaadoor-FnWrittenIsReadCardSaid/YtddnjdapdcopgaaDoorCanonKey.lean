/- CanonicalMIMEHeaderKey over names of letters, digits and hyphens: the walk. -/
import Derived.Test.YtddnjdapdcopgaaDoorCanon
namespace Go.Proofs.YtddnjdapdcopgaaDoor
open Go.RowKit

/-- What is canonical up to place k, the flag there. -/
theorem canon_split (l : List UInt8) (k : Nat) (c : UInt8) (up : Bool) (hk : l[k]? = some c) (h : canon l = l.take k ++ canF up (l.drop k)) (hc : canC up c = c) :
    canon l = l.take (k + 1) ++ canF (c == 45) (l.drop (k + 1)) := by
  have hlt : k < l.length := by
    rcases Nat.lt_or_ge k l.length with h1 | h1
    · exact h1
    · rw [List.getElem?_eq_none h1] at hk; cases hk
  have h1 : l.drop k = c :: l.drop (k + 1) := by
    rw [List.drop_eq_getElem_cons hlt]
    rw [List.getElem?_eq_getElem hlt] at hk
    injection hk with hk
    rw [hk]
  rw [h, h1, List.take_add_one, hk]
  show _ ++ (canC up c :: canF (canC up c == 45) _) = _
  rw [hc]
  simp

theorem canC_same_up (c : UInt8) (h : ¬ (97 ≤ c.toNat ∧ c.toNat ≤ 122)) : canC true c = c := by
  unfold canC; rw [if_neg (fun e => h e.2), if_neg (fun e => absurd e.1 (by decide))]
theorem canC_same_no (c : UInt8) (h : ¬ (65 ≤ c.toNat ∧ c.toNat ≤ 90)) : canC false c = c := by
  unfold canC; rw [if_neg (fun e => absurd e.1 (by decide)), if_neg (fun e => h e.2)]

theorem beq45 (c : UInt8) : (((c.toNat : Nat) : Int) == 45) = (c == 45) := by
  rw [Bool.eq_iff_iff, beq_iff_eq, beq_iff_eq]
  constructor
  · intro h; apply UInt8.toNat_inj.1; have : (45 : UInt8).toNat = 45 := rfl; omega
  · intro h; rw [h]; rfl

set_option maxHeartbeats 1000000 in
set_option maxRecDepth 100000 in
theorem canonKey_name (s : ByteArray) (w : World) (hs : s.size ≤ 2147483647) (hnm : s.data.toList.all nameC = true) :
    Calls Tryd.prog 29 #[.string s] w fun e w' => e = .returned (.string (mkB (canon s.data.toList))) ∧ Below w.heap.size w w' := by
  have Hnm := hidF (List.all_eq_true.1 hnm)
  have Hsz := hidF (show s.data.toList.length = s.size by rw [Array.length_toList]; rfl)
  obtain ⟨cap, w1, hconv, hc1, hc2, hrow, hbel, hlt⟩ := bytes_of s w (by unfold maxLen; omega)
  have Hconv := hidF hconv
  clear hconv
  go_enter Tryd.func29, Tryd.ntmps29
  go_wp2
  go_loop [0, 3, 4] (fun sv uv iv => ∃ (u : Bool) (k : Nat), sv = .string s ∧ uv = .bool u ∧ iv = .int .i64 k ∧ k ≤ s.size ∧ Hid (canon s.data.toList = s.data.toList.take k ++ canF u (s.data.toList.drop k))) (fun _ _ iv => s.size - (intOf iv).toNat)
  case atStart => exact ⟨true, 0, rfl, rfl, rfl, Nat.zero_le _, rfl⟩
  case round =>
    obtain ⟨u, k, rfl, rfl, rfl, hk, hcn⟩ := hrel
    by_cases hkl : k < s.size
    · have hget := get_of s k hkl
      obtain ⟨c, hc⟩ : ∃ c, c = s[k] := ⟨_, rfl⟩
      have hci : (s[k].toNat : Int) = (c.toNat : Int) := by rw [hc]
      have hmem : c ∈ s.data.toList := by rw [hc]; exact List.mem_of_getElem? hget
      rw [← hc] at hget
      have hv := hidF (valid_name c w (Hnm.out c hmem))
      have hsplit := hidF (canon_split s.data.toList k c u hget hcn.out)
      have hb45 := hidF (beq45 c)
      clear hget hc hmem
      have hinner := hidF (fun (W : World) (hrw : Row W w.heap.size s.data.toList) (hl : w.heap.size < W.heap.size) => canonInner_name s.data.toList w.heap.size s.size cap W hrw hl Hsz.out (by omega) hs hc1 hc2 hnm)
      cases u with
      | true =>
        by_cases h97 : 97 ≤ c.toNat
        · have f1 : (97 : Int) ≤ (c.toNat : Int) := by omega
          by_cases h122 : c.toNat ≤ 122
          · have f2 : (c.toNat : Int) ≤ 122 := by omega
            clear h97 h122
            go_wp2_with fail
            refine hv.out.mono ?_
            rintro e w2 ⟨rfl, rfl⟩
            have hconv := Hconv.out
            go_wp2_with fail
            refine (hinner.out _ hrow hlt).mono ?_
            rintro e w2 ⟨rfl, hb2⟩
            clear hconv
            go_wp2
            go_ret
            exact ⟨rfl, hbel.trans hb2⟩
          · have f2 : decide ((c.toNat : Int) ≤ 122) = false := decide_eq_false (by omega)
            have hs2 := hidF (hsplit.out (canC_same_up c (fun h => h122 h.2)))
            clear h97 h122
            go_wp2_with fail
            refine hv.out.mono ?_
            rintro e w2 ⟨rfl, rfl⟩
            go_wp2
            go_round
            case rel => exact ⟨_, k + 1, rfl, rfl, by go_num, by omega, by rw [hb45.out]; exact hs2.out⟩
            case measure => simp [intOf]; omega
        · have f1 : decide ((97 : Int) ≤ (c.toNat : Int)) = false := decide_eq_false (by omega)
          have hs2 := hidF (hsplit.out (canC_same_up c (fun h => h97 h.1)))
          clear h97
          go_wp2_with fail
          refine hv.out.mono ?_
          rintro e w2 ⟨rfl, rfl⟩
          go_wp2
          go_round
          case rel => exact ⟨_, k + 1, rfl, rfl, by go_num, by omega, by rw [hb45.out]; exact hs2.out⟩
          case measure => simp [intOf]; omega
      | false =>
        by_cases h65 : 65 ≤ c.toNat
        · have f1 : (65 : Int) ≤ (c.toNat : Int) := by omega
          by_cases h90 : c.toNat ≤ 90
          · have f2 : (c.toNat : Int) ≤ 90 := by omega
            clear h65 h90
            go_wp2_with fail
            refine hv.out.mono ?_
            rintro e w2 ⟨rfl, rfl⟩
            have hconv := Hconv.out
            go_wp2_with fail
            refine (hinner.out _ hrow hlt).mono ?_
            rintro e w2 ⟨rfl, hb2⟩
            clear hconv
            go_wp2
            go_ret
            exact ⟨rfl, hbel.trans hb2⟩
          · have f2 : decide ((c.toNat : Int) ≤ 90) = false := decide_eq_false (by omega)
            have hs2 := hidF (hsplit.out (canC_same_no c (fun h => h90 h.2)))
            clear h65 h90
            go_wp2_with fail
            refine hv.out.mono ?_
            rintro e w2 ⟨rfl, rfl⟩
            go_wp2
            go_round
            case rel => exact ⟨_, k + 1, rfl, rfl, by go_num, by omega, by rw [hb45.out]; exact hs2.out⟩
            case measure => simp [intOf]; omega
        · have f1 : decide ((65 : Int) ≤ (c.toNat : Int)) = false := decide_eq_false (by omega)
          have hs2 := hidF (hsplit.out (canC_same_no c (fun h => h65 h.1)))
          clear h65
          go_wp2_with fail
          refine hv.out.mono ?_
          rintro e w2 ⟨rfl, rfl⟩
          go_wp2
          go_round
          case rel => exact ⟨_, k + 1, rfl, rfl, by go_num, by omega, by rw [hb45.out]; exact hs2.out⟩
          case measure => simp [intOf]; omega
    · have hfin := hidF (show mkB (canon s.data.toList) = s by
        rw [hcn.out, List.drop_eq_nil_of_le (by rw [Hsz.out]; omega), List.take_of_length_le (by rw [Hsz.out]; omega)]
        show mkB (s.data.toList ++ []) = s
        rw [List.append_nil, list_mkB])
      go_wp2
      go_ret
      exact ⟨by rw [hfin.out]; rfl, Below.refl _ _⟩

end Go.Proofs.YtddnjdapdcopgaaDoor
