/- zzIndex, zzCut of the parser, errors.New: contracts. -/
import Derived.Test.YtddnjdapdcopgaaDoorBase
import Derived.Test.YtddnjdapdcopgaaDoorRd
import Derived.Test.YtddnjdapdcopgaaDoorLineL
import Derived.Deep.QuietTactic
import Derived.BigQuiet
import Derived.Outline
namespace Go.Proofs.YtddnjdapdcopgaaDoor
open Go.RowKit

/-- Where sub first stands in the text. -/
def indexO (sub : List UInt8) : List UInt8 → Option Nat
  | [] => if sub = [] then some 0 else none
  | c :: r => if (c :: r).take sub.length = sub then some 0 else (indexO sub r).map (· + 1)

def indexZ (sub l : List UInt8) : Int := match indexO sub l with | none => -1 | some k => k

theorem indexO_here (sub l : List UInt8) (h : l.take sub.length = sub) : indexO sub l = some 0 := by
  cases l with
  | nil => have : sub = [] := by simpa using h.symm
           simp [indexO, this]
  | cons c r => simp [indexO, h]

theorem indexO_short (sub : List UInt8) : ∀ l : List UInt8, l.length < sub.length → indexO sub l = none
  | [], h => by
    have : sub ≠ [] := by intro e; rw [e] at h; simp at h
    simp [indexO, this]
  | c :: r, h => by
    have h1 : (c :: r).take sub.length ≠ sub := by
      intro e
      have := congrArg List.length e
      simp at this h; omega
    rw [indexO, if_neg h1, indexO_short sub r (by simp at h; omega)]
    rfl

theorem extract_mkB (s : ByteArray) (i j : Nat) : s.extract i j = mkB ((s.data.toList.drop i).take (j - i)) := by
  apply ByteArray.ext
  apply Array.ext'
  rw [Lib.extract_data]
  simp [mkB]

set_option maxHeartbeats 400000 in
theorem zzIndex_any (s sub : ByteArray) (w : World) (hs : s.size ≤ 2147483647) (hsub : sub.size ≤ 2147483647) :
    Calls Tryd.prog 37 #[.string s, .string sub] w fun e w' => e = .returned (.int .i64 (indexZ sub.data.toList s.data.toList)) ∧ w = w' := by
  have Hsl := hidF (size_of_list s)
  have Hbl := hidF (size_of_list sub)
  go_enter Tryd.func37, Tryd.ntmps37
  go_wp2
  go_loop [5] (fun iv => ∃ k : Nat, k ≤ s.size + 1 ∧ iv = .int .i64 k ∧ Hid ((k ≤ s.size ∧ indexO sub.data.toList s.data.toList = (indexO sub.data.toList (s.data.toList.drop k)).map (· + k)) ∨ (k = s.size + 1 ∧ indexO sub.data.toList s.data.toList = none))) (fun iv => s.size + 1 - (intOf iv).toNat)
  case atStart =>
    refine ⟨0, Nat.zero_le _, rfl, ?_⟩
    left
    refine ⟨Nat.zero_le _, ?_⟩
    rw [List.drop_zero]
    cases indexO sub.data.toList s.data.toList <;> rfl
  case round =>
    obtain ⟨k, hk, rfl, hix⟩ := hrel
    by_cases hfit : k + sub.size ≤ s.size
    · have f1 : (k : Int) + (sub.size : Int) ≤ (s.size : Int) := by omega
      have hx := extract_mkB s k (k + sub.size)
      have hcast : ((k : Int) + (sub.size : Int)).toNat = k + sub.size := by omega
      have hkle : k ≤ s.size := by omega
      have hlist := hidF (show ((s.data.toList.drop k).take (k + sub.size - k)) = (s.data.toList.drop k).take sub.data.toList.length by rw [Nat.add_sub_cancel_left, Hbl.out])
      by_cases hm : s.extract k (k + sub.size) = sub
      · have f2 : ((s.extract k (k + sub.size)).toList == sub.toList) = true := by rw [hm]; exact beq_self_eq_true _
        have hfin := hidF (show indexZ sub.data.toList s.data.toList = (k : Int) by
          have h0 : indexO sub.data.toList (s.data.toList.drop k) = some 0 := by
            apply indexO_here
            have h1 := congrArg (fun b : ByteArray => b.data.toList) hm
            rw [hx, mkB_list, hlist.out] at h1
            exact h1
          rcases hix.out with ⟨_, h⟩ | ⟨h, _⟩
          · unfold indexZ; rw [h, h0]; simp
          · omega)
        clear hx hm
        go_wp2
        go_ret
        exact ⟨by rw [hfin.out]; rfl, rfl⟩
      · have f2 : ((s.extract k (k + sub.size)).toList == sub.toList) = false := str_ne hm
        have hnext := hidF (show (k + 1 ≤ s.size ∧ indexO sub.data.toList s.data.toList = (indexO sub.data.toList (s.data.toList.drop (k + 1))).map (· + (k + 1))) ∨ (k + 1 = s.size + 1 ∧ indexO sub.data.toList s.data.toList = none) by
          have hne : (s.data.toList.drop k).take sub.data.toList.length ≠ sub.data.toList := by
            intro e
            apply hm
            rw [hx, hlist.out, e, list_mkB]
          rcases hix.out with ⟨_, h⟩ | ⟨h, _⟩
          · by_cases hkl : k < s.size
            · left
              refine ⟨hkl, ?_⟩
              rw [h, drop_cons s k hkl]
              rw [drop_cons s k hkl] at hne
              rw [indexO, if_neg hne]
              cases indexO sub.data.toList (s.data.toList.drop (k + 1)) with
              | none => rfl
              | some j => simp; omega
            · right
              refine ⟨by omega, ?_⟩
              rw [drop_end s k hkl] at h hne
              rw [h, indexO, if_neg (fun e => hne (by rw [e]; rfl))]
              rfl
          · omega)
        clear hx hm
        go_wp2
        go_round
        case rel => exact ⟨k + 1, by omega, by go_num, hnext.out⟩
        case measure => simp [intOf]; omega
    · have f1 : ¬ (k : Int) + (sub.size : Int) ≤ (s.size : Int) := by omega
      have hfin := hidF (show indexZ sub.data.toList s.data.toList = -1 by
        rcases hix.out with ⟨hk2, h⟩ | ⟨_, h⟩
        · unfold indexZ
          rw [h, indexO_short _ _ (by rw [List.length_drop, ← Hsl.out, ← Hbl.out]; omega)]
          rfl
        · unfold indexZ; rw [h])
      go_wp2
      go_ret
      exact ⟨by rw [hfin.out]; rfl, rfl⟩

theorem indexO_some (sub : List UInt8) : ∀ (l : List UInt8) (k : Nat), indexO sub l = some k → k + sub.length ≤ l.length ∧ (l.drop k).take sub.length = sub ∧ ∀ j, j < k → (l.drop j).take sub.length ≠ sub
  | [], k, h => by
    unfold indexO at h
    split at h
    · rename_i hs
      obtain rfl := Option.some.inj h
      subst hs
      exact ⟨by simp, by simp, fun j hj => absurd hj (by omega)⟩
    · cases h
  | c :: r, k, h => by
    unfold indexO at h
    split at h
    · rename_i hs
      obtain rfl := Option.some.inj h
      refine ⟨?_, by simpa using hs, fun j hj => absurd hj (by omega)⟩
      have := congrArg List.length hs
      simp at this ⊢
      omega
    · rename_i hs
      cases hr : indexO sub r with
      | none => rw [hr] at h; cases h
      | some m =>
        rw [hr] at h
        obtain rfl := Option.some.inj h
        obtain ⟨h1, h2, h3⟩ := indexO_some sub r m hr
        refine ⟨by simp; omega, by simpa using h2, fun j hj => ?_⟩
        replace hj : j < m + 1 := hj
        cases j with
        | zero => simpa using hs
        | succ j => simpa using h3 j (by omega)

/-- A sign that does not stand in a text, and the first place of one that does. -/
theorem indexO_one (c : UInt8) : ∀ (a r : List UInt8), (∀ x ∈ a, x ≠ c) → indexO [c] (a ++ c :: r) = some a.length
  | [], r, _ => by rw [List.nil_append, indexO_here]; rfl; simp
  | x :: a, r, h => by
    have hx : x ≠ c := h x (by simp)
    rw [List.cons_append, indexO, if_neg (by simpa using hx), indexO_one c a r (fun y hy => h y (by simp [hy]))]
    rfl

/-- What stands ahead of sep, and what behind it. -/
theorem zzCut_yes (s sep : ByteArray) (a z : ByteArray) (w : World) (hs : s.size ≤ 2147483647) (hsep : sep.size ≤ 2147483647) (hi : indexO sep.data.toList s.data.toList = some a.size) (hl : s.data.toList = a.data.toList ++ (sep.data.toList ++ z.data.toList)) :
    Calls Tryd.prog 28 #[.string s, .string sep] w fun e w' => e = .returned (.tuple #[.string a, .string z, .bool true]) ∧ Below w.heap.size w w' := by
  have hcall := hidF (zzIndex_any s sep w hs hsep)
  have hz := hidF (show indexZ sep.data.toList s.data.toList = (a.size : Int) by unfold indexZ; rw [hi])
  have hsz : s.size = a.size + (sep.size + z.size) := by rw [size_of_list, size_of_list a, size_of_list sep, size_of_list z, hl]; simp
  have x1 : s.extract 0 a.size = a := by rw [extract_mkB, hl, size_of_list a]; simp [list_mkB]
  have x2 : s.extract (a.size + sep.size) s.size = z := by
    rw [from_mkB, hl, size_of_list a, size_of_list sep, ← List.append_assoc, List.drop_append, List.drop_eq_nil_of_le (by simp)]
    simp [list_mkB]
  clear hi hl
  go_enter Tryd.func28, Tryd.ntmps28
  go_wp2_with fail
  refine hcall.out.mono ?_
  rintro e w1 ⟨rfl, rfl⟩
  rw [hz.out]
  have g1 : (0 : Int) ≤ (a.size : Int) := by omega
  have g2 : (a.size : Int) ≤ (s.size : Int) := by omega
  have g3 : (a.size : Int) + (sep.size : Int) ≤ (s.size : Int) := by omega
  have g4 : ((a.size : Int) + (sep.size : Int)).toNat = a.size + sep.size := by omega
  clear hz hcall hsz
  go_wp2_with fail
  go_quiet (fail)
  go_wp2_with fail
  go_ret3
  exact ⟨rfl, ⟨rfl, rfl, rfl, Nat.le_refl _, fun _ _ => rfl⟩⟩

/-- No such sign. -/
theorem indexO_none (c : UInt8) : ∀ (l : List UInt8), (∀ x ∈ l, x ≠ c) → indexO [c] l = none
  | [], _ => by unfold indexO; simp
  | x :: a, h => by
    have hx : x ≠ c := h x (by simp)
    rw [indexO, if_neg (by simpa using hx), indexO_none c a (fun y hy => h y (by simp [hy]))]
    rfl
theorem zzCut_no (s sep : ByteArray) (w : World) (hs : s.size ≤ 2147483647) (hsep : sep.size ≤ 2147483647) (hi : indexO sep.data.toList s.data.toList = none) :
    Calls Tryd.prog 28 #[.string s, .string sep] w fun e w' => e = .returned (.tuple #[.string s, .string ByteArray.empty, .bool false]) ∧ Below w.heap.size w w' := by
  have hcall := hidF (zzIndex_any s sep w hs hsep)
  have hz := hidF (show indexZ sep.data.toList s.data.toList = -1 by unfold indexZ; rw [hi])
  clear hi
  go_enter Tryd.func28, Tryd.ntmps28
  go_wp2_with fail
  refine hcall.out.mono ?_
  rintro e w1 ⟨rfl, rfl⟩
  rw [hz.out]
  clear hz hcall
  go_wp2_with fail
  go_ret3
  exact ⟨rfl, ⟨rfl, rfl, rfl, Nat.le_refl _, fun _ _ => rfl⟩⟩

/-- What stands ahead of the first colon, and behind it. -/
def cutC : List UInt8 → Option (List UInt8 × List UInt8)
  | [] => none
  | c :: r => if c = 58 then some ([], r) else (cutC r).map fun p => (c :: p.1, p.2)
theorem cutC_some : ∀ {l a z : List UInt8}, cutC l = some (a, z) → l = a ++ 58 :: z ∧ ∀ x ∈ a, x ≠ 58
  | [], a, z, h => by cases h
  | c :: r, a, z, h => by
    unfold cutC at h
    split at h
    · rename_i hc
      obtain ⟨rfl, rfl⟩ := Prod.mk.inj (Option.some.inj h)
      subst hc
      exact ⟨rfl, by simp⟩
    · rename_i hc
      cases hr : cutC r with
      | none => rw [hr] at h; cases h
      | some p =>
        rw [hr] at h
        obtain ⟨rfl, rfl⟩ := Prod.mk.inj (Option.some.inj h)
        obtain ⟨h1, h2⟩ := cutC_some (a := p.1) (z := p.2) hr
        refine ⟨by rw [h1]; rfl, fun x hx => ?_⟩
        rcases List.mem_cons.1 hx with rfl | hx
        · exact hc
        · exact h2 x hx
theorem cutC_none : ∀ {l : List UInt8}, cutC l = none → ∀ x ∈ l, x ≠ 58
  | [], _, x, hx => by cases hx
  | c :: r, h, x, hx => by
    unfold cutC at h
    split at h
    · cases h
    · rename_i hc
      cases hr : cutC r with
      | none =>
        rcases List.mem_cons.1 hx with rfl | hx
        · exact hc
        · exact cutC_none hr x hx
      | some p => rw [hr] at h; cases h

theorem colon_any (l : List UInt8) (w : World) (hs : l.length ≤ 2147483647) :
    Calls Tryd.prog 28 #[.string (mkB l), .string ⟨#[58]⟩] w fun e w' =>
      (match cutC l with
        | some (a, z) => e = .returned (.tuple #[.string (mkB a), .string (mkB z), .bool true])
        | none => e = .returned (.tuple #[.string (mkB l), .string ByteArray.empty, .bool false])) ∧ Below w.heap.size w w' := by
  cases h : cutC l with
  | none => exact zzCut_no (mkB l) ⟨#[58]⟩ w hs (by decide) (indexO_none 58 l (cutC_none h))
  | some p =>
    obtain ⟨a, z⟩ := p
    obtain ⟨h1, h2⟩ := cutC_some h
    exact zzCut_yes (mkB l) ⟨#[58]⟩ (mkB a) (mkB z) w hs (by decide) (by
      show indexO [58] l = some a.length
      rw [h1]; exact indexO_one 58 a z h2) h1

/-- A new error: its block is new. -/
theorem errNew_any (s : ByteArray) (w : World) :
    Calls Tryd.prog 26 #[.string s] w fun e w' => ∃ a : Addr, e = .returned (eofV a) ∧ w.heap.size ≤ a.block ∧ (∃ C t, w'.heap[a.block]? = some (.cells C t (0, 0))) ∧ Below w.heap.size w w' := by
  go_enter Tryd.func26, Tryd.ntmps26
  go_wp2
  go_ret
  unfold eofV
  exact ⟨_, rfl, Nat.le_refl _, ⟨_, _, heap_alloc_new _ _⟩, (Below.refl _ w).alloc (Nat.le_refl _) _⟩
end Go.Proofs.YtddnjdapdcopgaaDoor
