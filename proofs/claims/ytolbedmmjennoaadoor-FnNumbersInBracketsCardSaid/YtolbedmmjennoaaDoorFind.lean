/- zzIndex, zzContains of the parser, errors.New, utf8.ValidString: contracts. -/
import Derived.Test.YtolbedmmjennoaaDoorBase
import Derived.Test.YtolbedmmjennoaaDoorShelf
namespace Go.Proofs.YtolbedmmjennoaaDoor
open Go.RowKit

/-- Where sub first stands in the text. -/
def indexO (sub : List UInt8) : List UInt8 → Option Nat
  | [] => if sub = [] then some 0 else none
  | c :: r => if (c :: r).take sub.length = sub then some 0 else (indexO sub r).map (· + 1)

def indexZ (sub l : List UInt8) : Int := match indexO sub l with | none => -1 | some k => k

theorem indexO_here (sub l : List UInt8) (h : l.take sub.length = sub) : indexO sub l = some 0 := by
  cases l with
  | nil => have : sub = [] := by simpa using h.symm
           simp [indexO, this]
  | cons c r => simp [indexO, h]

theorem indexO_short (sub : List UInt8) : ∀ l : List UInt8, l.length < sub.length → indexO sub l = none
  | [], h => by
    have : sub ≠ [] := by intro e; rw [e] at h; simp at h
    simp [indexO, this]
  | c :: r, h => by
    have h1 : (c :: r).take sub.length ≠ sub := by
      intro e
      have := congrArg List.length e
      simp at this h; omega
    rw [indexO, if_neg h1, indexO_short sub r (by simp at h; omega)]
    rfl

theorem extract_mkB (s : ByteArray) (i j : Nat) : s.extract i j = mkB ((s.data.toList.drop i).take (j - i)) := by
  apply ByteArray.ext
  apply Array.ext'
  rw [Lib.extract_data]
  simp [mkB]

set_option maxHeartbeats 400000 in
theorem zzIndex_any (s sub : ByteArray) (w : World) (hs : s.size ≤ 2147483647) (hsub : sub.size ≤ 2147483647) :
    Calls Tryd.prog 85 #[.string s, .string sub] w fun e w' => e = .returned (.int .i64 (indexZ sub.data.toList s.data.toList)) ∧ w = w' := by
  have Hsl := hidF (size_of_list s)
  have Hbl := hidF (size_of_list sub)
  go_enter Tryd.func85, Tryd.ntmps85
  go_wp2
  go_loop [5] (fun iv => ∃ k : Nat, k ≤ s.size + 1 ∧ iv = .int .i64 k ∧ Hid ((k ≤ s.size ∧ indexO sub.data.toList s.data.toList = (indexO sub.data.toList (s.data.toList.drop k)).map (· + k)) ∨ (k = s.size + 1 ∧ indexO sub.data.toList s.data.toList = none))) (fun iv => s.size + 1 - (intOf iv).toNat)
  case atStart =>
    refine ⟨0, Nat.zero_le _, rfl, ?_⟩
    left
    refine ⟨Nat.zero_le _, ?_⟩
    rw [List.drop_zero]
    cases indexO sub.data.toList s.data.toList <;> rfl
  case round =>
    obtain ⟨k, hk, rfl, hix⟩ := hrel
    by_cases hfit : k + sub.size ≤ s.size
    · have f1 : (k : Int) + (sub.size : Int) ≤ (s.size : Int) := by omega
      have hx := extract_mkB s k (k + sub.size)
      have hcast : ((k : Int) + (sub.size : Int)).toNat = k + sub.size := by omega
      have hkle : k ≤ s.size := by omega
      have hlist := hidF (show ((s.data.toList.drop k).take (k + sub.size - k)) = (s.data.toList.drop k).take sub.data.toList.length by rw [Nat.add_sub_cancel_left, Hbl.out])
      by_cases hm : s.extract k (k + sub.size) = sub
      · have f2 : ((s.extract k (k + sub.size)).toList == sub.toList) = true := by rw [hm]; exact beq_self_eq_true _
        have hfin := hidF (show indexZ sub.data.toList s.data.toList = (k : Int) by
          have h0 : indexO sub.data.toList (s.data.toList.drop k) = some 0 := by
            apply indexO_here
            have h1 := congrArg (fun b : ByteArray => b.data.toList) hm
            rw [hx, mkB_list, hlist.out] at h1
            exact h1
          rcases hix.out with ⟨_, h⟩ | ⟨h, _⟩
          · unfold indexZ; rw [h, h0]; simp
          · omega)
        clear hx hm
        go_wp2
        go_ret
        exact ⟨by rw [hfin.out]; rfl, rfl⟩
      · have f2 : ((s.extract k (k + sub.size)).toList == sub.toList) = false := str_ne hm
        have hnext := hidF (show (k + 1 ≤ s.size ∧ indexO sub.data.toList s.data.toList = (indexO sub.data.toList (s.data.toList.drop (k + 1))).map (· + (k + 1))) ∨ (k + 1 = s.size + 1 ∧ indexO sub.data.toList s.data.toList = none) by
          have hne : (s.data.toList.drop k).take sub.data.toList.length ≠ sub.data.toList := by
            intro e
            apply hm
            rw [hx, hlist.out, e, list_mkB]
          rcases hix.out with ⟨_, h⟩ | ⟨h, _⟩
          · by_cases hkl : k < s.size
            · left
              refine ⟨hkl, ?_⟩
              rw [h, drop_cons s k hkl]
              rw [drop_cons s k hkl] at hne
              rw [indexO, if_neg hne]
              cases indexO sub.data.toList (s.data.toList.drop (k + 1)) with
              | none => rfl
              | some j => simp; omega
            · right
              refine ⟨by omega, ?_⟩
              rw [drop_end s k hkl] at h hne
              rw [h, indexO, if_neg (fun e => hne (by rw [e]; rfl))]
              rfl
          · omega)
        clear hx hm
        go_wp2
        go_round
        case rel => exact ⟨k + 1, by omega, by go_num, hnext.out⟩
        case measure => simp [intOf]; omega
    · have f1 : ¬ (k : Int) + (sub.size : Int) ≤ (s.size : Int) := by omega
      have hfin := hidF (show indexZ sub.data.toList s.data.toList = -1 by
        rcases hix.out with ⟨hk2, h⟩ | ⟨_, h⟩
        · unfold indexZ
          rw [h, indexO_short _ _ (by rw [List.length_drop, ← Hsl.out, ← Hbl.out]; omega)]
          rfl
        · unfold indexZ; rw [h])
      go_wp2
      go_ret
      exact ⟨by rw [hfin.out]; rfl, rfl⟩

def hasSub (sub l : List UInt8) : Bool := (indexO sub l).isSome

set_option maxHeartbeats 400000 in
theorem zzContains_any (s sub : ByteArray) (w : World) (hs : s.size ≤ 2147483647) (hsub : sub.size ≤ 2147483647) :
    Calls Tryd.prog 67 #[.string s, .string sub] w fun e w' => e = .returned (.bool (hasSub sub.data.toList s.data.toList)) ∧ w = w' := by
  have hix := hidF (zzIndex_any s sub w hs hsub)
  by_cases h : ∃ k, indexO sub.data.toList s.data.toList = some k
  · obtain ⟨k, hk⟩ := h
    have hz := hidF (show indexZ sub.data.toList s.data.toList = (k : Int) by unfold indexZ; rw [hk])
    have hb := hidF (show hasSub sub.data.toList s.data.toList = true by unfold hasSub; rw [hk]; rfl)
    clear hk
    go_enter Tryd.func67, Tryd.ntmps67
    go_wp2_with fail
    refine hix.out.mono ?_
    rintro e w1 ⟨rfl, rfl⟩
    rw [hz.out]
    go_wp2_with fail
    go_ret
    exact ⟨by rw [hb.out]; simp, rfl⟩
  · have hn : indexO sub.data.toList s.data.toList = none := by
      cases hx : indexO sub.data.toList s.data.toList with
      | none => rfl
      | some k => exact absurd ⟨k, hx⟩ h
    have hz := hidF (show indexZ sub.data.toList s.data.toList = -1 by unfold indexZ; rw [hn])
    have hb := hidF (show hasSub sub.data.toList s.data.toList = false by unfold hasSub; rw [hn]; rfl)
    clear h hn
    go_enter Tryd.func67, Tryd.ntmps67
    go_wp2_with fail
    refine hix.out.mono ?_
    rintro e w1 ⟨rfl, rfl⟩
    rw [hz.out]
    go_wp2_with fail
    go_ret
    exact ⟨by rw [hb.out]; simp, rfl⟩

/-- An error of errors.New. -/
def IsErr (v : Value) : Prop := ∃ a : Addr, v = .iface 84 (.pointer (some a))

theorem errNew_any (s : ByteArray) (w : World) :
    Calls Tryd.prog 38 #[.string s] w fun e w' => ∃ a : Addr, e = .returned (.iface 84 (.pointer (some a))) ∧ Below w.heap.size w w' := by
  go_enter Tryd.func38, Tryd.ntmps38
  go_wp2
  go_ret
  exact ⟨_, rfl, (Below.refl _ w).alloc (Nat.le_refl _) _⟩

theorem validString_any (s : ByteArray) (w : World) (hs : s.size ≤ 9223372036854775807) (hT : Lib.Utf8Tabs 0 1 w) :
    Calls Tryd.prog 8 #[.string s] w fun e w' => e = .returned (.bool (Lib.validD s.data.toList)) ∧ Below w.heap.size w w' :=
  Any.utf8_ValidString Tryd.laysValid s w hs hT

end Go.Proofs.YtolbedmmjennoaaDoor
