/- zzIndex, zzCut, zzCount of gomime, errors.New, utf8.ValidString: contracts. -/
import Derived.Test.YtbpoecfbcmdeeaaDoorBase
import Derived.Test.YtbpoecfbcmdeeaaDoorShelf
import Derived.Deep.QuietTactic
import Derived.BigQuiet
import Derived.Outline
namespace Go.Proofs.YtbpoecfbcmdeeaaDoor
open Go.RowKit

/-- Where sub first stands in the text. -/
def indexO (sub : List UInt8) : List UInt8 → Option Nat
  | [] => if sub = [] then some 0 else none
  | c :: r => if (c :: r).take sub.length = sub then some 0 else (indexO sub r).map (· + 1)

def indexZ (sub l : List UInt8) : Int := match indexO sub l with | none => -1 | some k => k

theorem indexO_here (sub l : List UInt8) (h : l.take sub.length = sub) : indexO sub l = some 0 := by
  cases l with
  | nil => have : sub = [] := by simpa using h.symm
           simp [indexO, this]
  | cons c r => simp [indexO, h]

theorem indexO_short (sub : List UInt8) : ∀ l : List UInt8, l.length < sub.length → indexO sub l = none
  | [], h => by
    have : sub ≠ [] := by intro e; rw [e] at h; simp at h
    simp [indexO, this]
  | c :: r, h => by
    have h1 : (c :: r).take sub.length ≠ sub := by
      intro e
      have := congrArg List.length e
      simp at this h; omega
    rw [indexO, if_neg h1, indexO_short sub r (by simp at h; omega)]
    rfl

theorem extract_mkB (s : ByteArray) (i j : Nat) : s.extract i j = mkB ((s.data.toList.drop i).take (j - i)) := by
  apply ByteArray.ext
  apply Array.ext'
  rw [Lib.extract_data]
  simp [mkB]

set_option maxHeartbeats 400000 in
theorem zzIndex_any (s sub : ByteArray) (w : World) (hs : s.size ≤ 2147483647) (hsub : sub.size ≤ 2147483647) :
    Calls Tryd.prog 33 #[.string s, .string sub] w fun e w' => e = .returned (.int .i64 (indexZ sub.data.toList s.data.toList)) ∧ w = w' := by
  have Hsl := hidF (size_of_list s)
  have Hbl := hidF (size_of_list sub)
  go_enter Tryd.func33, Tryd.ntmps33
  go_wp2
  go_loop [5] (fun iv => ∃ k : Nat, k ≤ s.size + 1 ∧ iv = .int .i64 k ∧ Hid ((k ≤ s.size ∧ indexO sub.data.toList s.data.toList = (indexO sub.data.toList (s.data.toList.drop k)).map (· + k)) ∨ (k = s.size + 1 ∧ indexO sub.data.toList s.data.toList = none))) (fun iv => s.size + 1 - (intOf iv).toNat)
  case atStart =>
    refine ⟨0, Nat.zero_le _, rfl, ?_⟩
    left
    refine ⟨Nat.zero_le _, ?_⟩
    rw [List.drop_zero]
    cases indexO sub.data.toList s.data.toList <;> rfl
  case round =>
    obtain ⟨k, hk, rfl, hix⟩ := hrel
    by_cases hfit : k + sub.size ≤ s.size
    · have f1 : (k : Int) + (sub.size : Int) ≤ (s.size : Int) := by omega
      have hx := extract_mkB s k (k + sub.size)
      have hcast : ((k : Int) + (sub.size : Int)).toNat = k + sub.size := by omega
      have hkle : k ≤ s.size := by omega
      have hlist := hidF (show ((s.data.toList.drop k).take (k + sub.size - k)) = (s.data.toList.drop k).take sub.data.toList.length by rw [Nat.add_sub_cancel_left, Hbl.out])
      by_cases hm : s.extract k (k + sub.size) = sub
      · have f2 : ((s.extract k (k + sub.size)).toList == sub.toList) = true := by rw [hm]; exact beq_self_eq_true _
        have hfin := hidF (show indexZ sub.data.toList s.data.toList = (k : Int) by
          have h0 : indexO sub.data.toList (s.data.toList.drop k) = some 0 := by
            apply indexO_here
            have h1 := congrArg (fun b : ByteArray => b.data.toList) hm
            rw [hx, mkB_list, hlist.out] at h1
            exact h1
          rcases hix.out with ⟨_, h⟩ | ⟨h, _⟩
          · unfold indexZ; rw [h, h0]; simp
          · omega)
        clear hx hm
        go_wp2
        go_ret
        exact ⟨by rw [hfin.out]; rfl, rfl⟩
      · have f2 : ((s.extract k (k + sub.size)).toList == sub.toList) = false := str_ne hm
        have hnext := hidF (show (k + 1 ≤ s.size ∧ indexO sub.data.toList s.data.toList = (indexO sub.data.toList (s.data.toList.drop (k + 1))).map (· + (k + 1))) ∨ (k + 1 = s.size + 1 ∧ indexO sub.data.toList s.data.toList = none) by
          have hne : (s.data.toList.drop k).take sub.data.toList.length ≠ sub.data.toList := by
            intro e
            apply hm
            rw [hx, hlist.out, e, list_mkB]
          rcases hix.out with ⟨_, h⟩ | ⟨h, _⟩
          · by_cases hkl : k < s.size
            · left
              refine ⟨hkl, ?_⟩
              rw [h, drop_cons s k hkl]
              rw [drop_cons s k hkl] at hne
              rw [indexO, if_neg hne]
              cases indexO sub.data.toList (s.data.toList.drop (k + 1)) with
              | none => rfl
              | some j => simp; omega
            · right
              refine ⟨by omega, ?_⟩
              rw [drop_end s k hkl] at h hne
              rw [h, indexO, if_neg (fun e => hne (by rw [e]; rfl))]
              rfl
          · omega)
        clear hx hm
        go_wp2
        go_round
        case rel => exact ⟨k + 1, by omega, by go_num, hnext.out⟩
        case measure => simp [intOf]; omega
    · have f1 : ¬ (k : Int) + (sub.size : Int) ≤ (s.size : Int) := by omega
      have hfin := hidF (show indexZ sub.data.toList s.data.toList = -1 by
        rcases hix.out with ⟨hk2, h⟩ | ⟨_, h⟩
        · unfold indexZ
          rw [h, indexO_short _ _ (by rw [List.length_drop, ← Hsl.out, ← Hbl.out]; omega)]
          rfl
        · unfold indexZ; rw [h])
      go_wp2
      go_ret
      exact ⟨by rw [hfin.out]; rfl, rfl⟩

theorem indexO_some (sub : List UInt8) : ∀ (l : List UInt8) (k : Nat), indexO sub l = some k → k + sub.length ≤ l.length ∧ (l.drop k).take sub.length = sub ∧ ∀ j, j < k → (l.drop j).take sub.length ≠ sub
  | [], k, h => by
    unfold indexO at h
    split at h
    · rename_i hs
      obtain rfl := Option.some.inj h
      subst hs
      exact ⟨by simp, by simp, fun j hj => absurd hj (by omega)⟩
    · cases h
  | c :: r, k, h => by
    unfold indexO at h
    split at h
    · rename_i hs
      obtain rfl := Option.some.inj h
      refine ⟨?_, by simpa using hs, fun j hj => absurd hj (by omega)⟩
      have := congrArg List.length hs
      simp at this ⊢
      omega
    · rename_i hs
      cases hr : indexO sub r with
      | none => rw [hr] at h; cases h
      | some m =>
        rw [hr] at h
        obtain rfl := Option.some.inj h
        obtain ⟨h1, h2, h3⟩ := indexO_some sub r m hr
        refine ⟨by simp; omega, by simpa using h2, fun j hj => ?_⟩
        replace hj : j < m + 1 := hj
        cases j with
        | zero => simpa using hs
        | succ j => simpa using h3 j (by omega)

/-- A sign that does not stand in a text, and the first place of one that does. -/
theorem indexO_one (c : UInt8) : ∀ (a r : List UInt8), (∀ x ∈ a, x ≠ c) → indexO [c] (a ++ c :: r) = some a.length
  | [], r, _ => by rw [List.nil_append, indexO_here]; rfl; simp
  | x :: a, r, h => by
    have hx : x ≠ c := h x (by simp)
    rw [List.cons_append, indexO, if_neg (by simpa using hx), indexO_one c a r (fun y hy => h y (by simp [hy]))]
    rfl

/-- What stands ahead of sep, and what behind it. -/
theorem zzCut_yes (s sep : ByteArray) (a z : ByteArray) (w : World) (hs : s.size ≤ 2147483647) (hsep : sep.size ≤ 2147483647) (hi : indexO sep.data.toList s.data.toList = some a.size) (hl : s.data.toList = a.data.toList ++ (sep.data.toList ++ z.data.toList)) :
    Calls Tryd.prog 29 #[.string s, .string sep] w fun e w' => e = .returned (.tuple #[.string a, .string z, .bool true]) ∧ Below w.heap.size w w' := by
  have hcall := hidF (zzIndex_any s sep w hs hsep)
  have hz := hidF (show indexZ sep.data.toList s.data.toList = (a.size : Int) by unfold indexZ; rw [hi])
  have hsz : s.size = a.size + (sep.size + z.size) := by rw [size_of_list, size_of_list a, size_of_list sep, size_of_list z, hl]; simp
  have x1 : s.extract 0 a.size = a := by rw [extract_mkB, hl, size_of_list a]; simp [list_mkB]
  have x2 : s.extract (a.size + sep.size) s.size = z := by
    rw [from_mkB, hl, size_of_list a, size_of_list sep, ← List.append_assoc, List.drop_append, List.drop_eq_nil_of_le (by simp)]
    simp [list_mkB]
  clear hi hl
  go_enter Tryd.func29, Tryd.ntmps29
  go_wp2_with fail
  refine hcall.out.mono ?_
  rintro e w1 ⟨rfl, rfl⟩
  rw [hz.out]
  have g1 : (0 : Int) ≤ (a.size : Int) := by omega
  have g2 : (a.size : Int) ≤ (s.size : Int) := by omega
  have g3 : (a.size : Int) + (sep.size : Int) ≤ (s.size : Int) := by omega
  have g4 : ((a.size : Int) + (sep.size : Int)).toNat = a.size + sep.size := by omega
  clear hz hcall hsz
  go_wp2_with fail
  go_quiet (fail)
  go_wp2_with fail
  go_ret3
  exact ⟨rfl, ⟨rfl, rfl, rfl, Nat.le_refl _, fun _ _ => rfl⟩⟩

/-- How many question marks stand in a text. -/
def marks (l : List UInt8) : Nat := l.countP (fun c => c == 63)

set_option maxHeartbeats 400000 in
theorem zzCount_q (s q : ByteArray) (w : World) (hs : s.size ≤ 2147483647) (hq : q.data.toList = [63]) :
    Calls Tryd.prog 28 #[.string s, .string q] w fun e w' => e = .returned (.int .i64 (marks s.data.toList : Nat)) ∧ w = w' := by
  have Hsl := hidF (size_of_list s)
  have hq1 : 1 ≤ q.size := by rw [size_of_list, hq]; simp
  have hq2 : q.size ≤ 1 := by rw [size_of_list, hq]; simp
  have z1 : ((q.size : Int) == 0) = false := beq_eq_false_iff_ne.2 (by omega)
  have Hq := hidF hq
  clear hq
  go_enter Tryd.func28, Tryd.ntmps28
  go_wp2_with fail
  go_loop [5, 6] (fun v5 v6 => ∃ k : Nat, k ≤ s.size ∧ v6 = .int .i64 k ∧ v5 = .int .i64 (marks (s.data.toList.take k) : Nat)) (fun _ v6 => s.size - (intOf v6).toNat)
  case atStart => exact ⟨0, Nat.zero_le _, rfl, by rw [List.take_zero]; rfl⟩
  case round =>
    obtain ⟨k, hk, rfl, rfl⟩ := hrel
    by_cases hlt : k < s.size
    · have f1 : (k : Int) + (q.size : Int) ≤ (s.size : Int) := by omega
      have hx : s.extract k (k + q.size) = mkB [s[k]] := by
        rw [extract_mkB, drop_cons s k hlt]
        rw [show k + q.size - k = 1 by omega]; rfl
      have hst : marks (s.data.toList.take (k + 1)) = marks (s.data.toList.take k) + if s[k] = 63 then 1 else 0 := by
        rw [List.take_add_one, get_of s k hlt, marks, List.countP_append]
        by_cases h : s[k] = 63 <;> simp [marks, h]
      have hle : marks (s.data.toList.take k) ≤ k := by
        have h1 := List.countP_le_length (p := fun c => c == (63 : UInt8)) (l := s.data.toList.take k)
        have h2 := List.length_take_le k s.data.toList
        unfold marks; omega
      have hcast : ((k : Int) + (q.size : Int)).toNat = k + q.size := by omega
      by_cases hm : s[k] = 63
      · have f2 : ((s.extract k (k + q.size)).toList == q.toList) = true := by
          rw [hx, hm, show q = mkB [63] by rw [← list_mkB q, Hq.out]]; exact beq_self_eq_true _
        rw [if_pos hm] at hst
        have Hst := hidF hst
        clear hst hx hm
        go_wp2_with fail
        go_round
        case rel => exact ⟨k + 1, hlt, by congr 1; omega, by rw [Hst.out]; go_num⟩
        case measure => simp [intOf]; omega
      · have f2 : ((s.extract k (k + q.size)).toList == q.toList) = false := by
          apply str_ne
          rw [hx]
          intro e
          apply hm
          have := congrArg (fun b : ByteArray => b.data.toList) e
          simp only [mkB_list, Hq.out] at this
          exact (List.cons.inj this).1
        rw [if_neg hm] at hst
        have Hst := hidF hst
        clear hst hx hm
        go_wp2_with fail
        go_round
        case rel => exact ⟨k + 1, hlt, by go_num, by rw [Hst.out]; rfl⟩
        case measure => simp [intOf]; omega
    · have f1 : ¬ (k : Int) + (q.size : Int) ≤ (s.size : Int) := by omega
      have hend := hidF (show marks (s.data.toList.take k) = marks s.data.toList by rw [List.take_of_length_le (by rw [← Hsl.out]; omega)])
      go_wp2_with fail
      go_ret
      exact ⟨by rw [← hend.out]; rfl, rfl⟩
theorem zzCount_any (s : ByteArray) (w : World) (hs : s.size ≤ 2147483647) :
    Calls Tryd.prog 28 #[.string s, .string ⟨#[63]⟩] w fun e w' => e = .returned (.int .i64 (marks s.data.toList : Nat)) ∧ w = w' := zzCount_q s _ w hs rfl

/-- An error of errors.New. -/
def IsErr (v : Value) : Prop := ∃ a : Addr, v = .iface 101 (.pointer (some a))

theorem errNew_any (s : ByteArray) (w : World) :
    Calls Tryd.prog 50 #[.string s] w fun e w' => ∃ a : Addr, e = .returned (.iface 101 (.pointer (some a))) ∧ Below w.heap.size w w' := by
  go_enter Tryd.func50, Tryd.ntmps50
  go_wp2
  go_ret
  exact ⟨_, rfl, (Below.refl _ w).alloc (Nat.le_refl _) _⟩

theorem validString_any (s : ByteArray) (w : World) (hs : s.size ≤ 9223372036854775807) (hT : Lib.Utf8Tabs 0 1 w) :
    Calls Tryd.prog 6 #[.string s] w fun e w' => e = .returned (.bool (Lib.validD s.data.toList)) ∧ Below w.heap.size w w' :=
  Any.utf8_ValidString Tryd.laysValid s w hs hT

end Go.Proofs.YtbpoecfbcmdeeaaDoor
