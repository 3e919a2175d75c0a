/- gomime's convert at the charsets that the reference knows: the walk. -/
import Derived.Test.YtbpoecfbcmdeeaaDoorBldR2
import Derived.Test.YtbpoecfbcmdeeaaDoorShelf
import Derived.Lib.Fold
import Derived.Outline
namespace Go.Proofs.YtbpoecfbcmdeeaaDoor
open Go.RowKit

theorem fold_one (x y : UInt8) (hx : x.toNat < 128) (hy : y.toNat < 128) (hl : lowC x = x) : Lib.foldEq x y = decide (lowC y = x) := by
  have h : ∀ a b : Fin 128, lowC (UInt8.ofNat a.val) = UInt8.ofNat a.val → Lib.foldEq (UInt8.ofNat a.val) (UInt8.ofNat b.val) = decide (lowC (UInt8.ofNat b.val) = UInt8.ofNat a.val) := by decide +kernel
  have := h ⟨x.toNat, hx⟩ ⟨y.toNat, hy⟩
  simp only [UInt8.ofNat_toNat] at this
  exact this hl
theorem fold_list : ∀ (a cs : List UInt8), (∀ x ∈ a, x.toNat < 128 ∧ lowC x = x) → (∀ y ∈ cs, y.toNat < 128) → Lib.equalFold a cs = decide (lowerL cs = a)
  | [], [], _, _ => by simp [Lib.equalFold, lowerL]
  | [], y :: t, _, _ => by simp [Lib.equalFold, lowerL]
  | x :: s, [], _, _ => by simp [Lib.equalFold, lowerL]
  | x :: s, y :: t, ha, hc => by
    rw [Lib.equalFold, fold_one x y (ha x (by simp)).1 (hc y (by simp)) (ha x (by simp)).2, fold_list s t (fun z hz => ha z (by simp [hz])) (fun z hz => hc z (by simp [hz]))]
    rw [Bool.eq_iff_iff]
    simp only [Bool.and_eq_true, decide_eq_true_eq]
    simp [lowerL]
theorem low_ascii (y : UInt8) (h : (lowC y).toNat < 128) : y.toNat < 128 := by
  have h' : ∀ b : Fin 256, (lowC (UInt8.ofNat b.val)).toNat < 128 → b.val < 128 := by decide +kernel
  have := h' ⟨y.toNat, y.toNat_lt⟩
  simp only [UInt8.ofNat_toNat] at this
  exact this h
theorem cs_ascii (cs a : List UInt8) (h : lowerL cs = a) (ha : ∀ x ∈ a, x.toNat < 128) : ∀ y ∈ cs, y.toNat < 128 := by
  intro y hy
  apply low_ascii
  apply ha
  rw [← h]
  unfold lowerL
  exact List.mem_map.2 ⟨y, hy, rfl⟩
theorem at_of_mem {l : List UInt8} {p : UInt8 → Prop} (h : ∀ y ∈ l, p y) : ∀ (j : Nat) b, l[j]? = some b → p b := fun _ b hj => h b (List.mem_of_getElem? hj)
theorem utfN_ok : ∀ x ∈ utfN, x.toNat < 128 ∧ lowC x = x := by decide
theorem isoN_ok : ∀ x ∈ isoN, x.toNat < 128 ∧ lowC x = x := by decide
theorem ascN_ok : ∀ x ∈ ascN, x.toNat < 128 ∧ lowC x = x := by decide
def utfS : ByteArray := ⟨#[117, 116, 102, 45, 56]⟩
def isoS : ByteArray := ⟨#[105, 115, 111, 45, 56, 56, 53, 57, 45, 49]⟩
def ascS : ByteArray := ⟨#[117, 115, 45, 97, 115, 99, 105, 105]⟩

/-- The reference's names, held against a charset. -/
theorem fold_any (a : ByteArray) (cs : ByteArray) (w : World) (ha : a = utfS ∨ a = isoS ∨ a = ascS) (hcs : ∀ y ∈ cs.data.toList, y.toNat < 128) :
    Calls Tryd.prog 46 #[.string a, .string cs] w fun e w' => e = .returned (.bool (decide (lowerL cs.data.toList = a.data.toList))) ∧ w = w' := by
  have hok : ∀ x ∈ a.data.toList, x.toNat < 128 ∧ lowC x = x := by
    rcases ha with rfl | rfl | rfl
    · exact utfN_ok
    · exact isoN_ok
    · exact ascN_ok
  have hsz : a.size < 4294967281 := by rcases ha with rfl | rfl | rfl <;> decide
  refine (Tryd.strings_EqualFold a cs w hsz (at_of_mem (fun y hy => (hok y hy).1)) (at_of_mem hcs)).mono ?_
  rintro e w' ⟨rfl, rfl⟩
  exact ⟨by rw [fold_list _ _ hok hcs], rfl⟩

set_option maxHeartbeats 4000000 in
set_option maxRecDepth 100000 in
theorem convert_any (d : Value) (bb g cap : Nat) (cs : ByteArray) (l t bs : List UInt8) (w : World) (h : IsB bb bs w) (ha : Apart w bb g) (hlen : bs.length + 2 * l.length ≤ 100000000) (hconv : convL cs.data.toList l = some t)
    (hc : ∀ j c, l[j]? = some c → w.cell? ⟨g, j, none⟩ = some (.int .u8 (c.toNat : Int))) :
    Calls Tryd.prog 31 #[d, .pointer (some ⟨bb, 0, none⟩), .string cs, .slice (some ⟨g, 0, none⟩) l.length cap] w fun e w' => e = .returned .nilIface ∧ IsB bb (bs ++ t) w' ∧ BStep bb w w' := by
  by_cases hu : lowerL cs.data.toList = utfN
  · have hasc := cs_ascii _ _ hu (fun x hx => (utfN_ok x hx).1)
    have hf := fold_any utfS cs w (.inl rfl) hasc
    rw [show utfS.data.toList = utfN from rfl, decide_eq_true hu] at hf
    have Hf := hidF hf
    have ht : t = l := by
      unfold convL at hconv
      rw [if_pos hu] at hconv
      split at hconv
      · exact (Option.some.inj hconv).symm
      · cases hconv
    subst ht
    have hw := hidF (Write_R bb g 0 cap bs t w h (by omega) (fun _ => ha) (fun j c hj => by rw [Nat.zero_add]; exact hc j c hj))
    clear hf hasc hu hconv hc
    go_enter Tryd.func31, Tryd.ntmps31
    go_wp2_with fail
    refine Hf.out.mono ?_
    rintro e w1 ⟨rfl, rfl⟩
    go_wp2_with fail
    refine hw.out.mono ?_
    rintro e w1 ⟨rfl, hB, hS⟩
    have HF := hidF (show IsB bb (bs ++ t) w1 ∧ BStep bb w w1 from ⟨hB.is, hS⟩)
    clear hB hS hw Hf
    go_wp2_with fail
    go_ret
    exact ⟨rfl, HF.out⟩
  · by_cases hi : lowerL cs.data.toList = isoN
    · have hasc := cs_ascii _ _ hi (fun x hx => (isoN_ok x hx).1)
      have hf1 := fold_any utfS cs w (.inl rfl) hasc
      rw [show utfS.data.toList = utfN from rfl, decide_eq_false hu] at hf1
      have hf2 := fold_any isoS cs w (.inr (.inl rfl)) hasc
      rw [show isoS.data.toList = isoN from rfl, decide_eq_true hi] at hf2
      have Hf1 := hidF hf1
      have Hf2 := hidF hf2
      have ht : t = latinL l := by
        unfold convL at hconv
        rw [if_neg hu, if_pos hi] at hconv
        exact (Option.some.inj hconv).symm
      subst ht
      have Hc := hidF hc
      clear hf1 hf2 hasc hu hi hconv hc
      have h0 := hidF (show IsB bb (bs ++ latinL (l.take 0)) w by simpa [latinL] using h)
      go_enter Tryd.func31, Tryd.ntmps31
      go_wp2_with fail
      refine Hf1.out.mono ?_
      rintro e w1 ⟨rfl, rfl⟩
      go_wp2_with fail
      refine Hf2.out.mono ?_
      rintro e w1 ⟨rfl, rfl⟩
      go_wp2_with fail
      go_loopw [58] (fun kv wr => ∃ k : Nat, k ≤ l.length ∧ kv = .int .i64 k ∧ Hid (IsB bb (bs ++ latinL (l.take k)) wr ∧ BStep bb w wr)) (fun kv _ => l.length - (intOf kv).toNat)
      case atStart => exact ⟨0, Nat.zero_le _, rfl, hidF ⟨h0.out, BStep.refl _ _⟩⟩
      case round =>
        obtain ⟨k, hk, rfl, hst⟩ := hrel
        by_cases hkl : k < l.length
        · have hkz : (k : Int) < (l.length : Int) := by omega
          obtain ⟨c, hcc⟩ : ∃ c, l[k]? = some c := ⟨_, List.getElem?_eq_getElem hkl⟩
          have hcell : wr.cell? ⟨g, k, none⟩ = some (.int .u8 (c.toNat : Int)) := hst.out.2.cell ha (Hc.out k c hcc)
          have hc8 : (c.toNat : Int) < 256 := by have := c.toNat_lt; omega
          have hnx := hidF (show latinL (l.take (k + 1)) = latinL (l.take k) ++ latinC c by
            rw [List.take_add_one, hcc]; simp [latinL])
          have hll := hidF (show (latinL (l.take k)).length ≤ 2 * k by
            have h1 : ∀ m : List UInt8, (latinL m).length ≤ 2 * m.length := by
              intro m
              induction m with
              | nil => simp [latinL]
              | cons x y ih =>
                have h2 : (latinC x).length ≤ 2 := by unfold latinC; split <;> simp
                have h3 : latinL (x :: y) = latinC x ++ latinL y := rfl
                rw [h3, List.length_append, List.length_cons]; omega
            have h4 := h1 (l.take k)
            have h5 := List.length_take_le k l
            omega)
          have hcall := hidF (WriteRune_R bb _ c wr hst.out.1 (by rw [List.length_append]; have := hll.out; omega))
          clear hcc
          go_wp2_with fail
          refine hcall.out.mono ?_
          rintro e w2 ⟨⟨k2, rfl⟩, hB, hS⟩
          have HF := hidF (show IsB bb (bs ++ latinL (l.take (k + 1))) w2 ∧ BStep bb w w2 from ⟨by rw [hnx.out, ← List.append_assoc]; exact hB.is, hst.out.2.trans hS⟩)
          clear hB hS hcall hll hnx hst hcell
          go_wp2_with fail
          go_roundw
          case rel => exact ⟨k + 1, hkl, by go_num, HF⟩
          case measure => simp [intOf]; omega
        · have hkz : ¬ (k : Int) < (l.length : Int) := by omega
          have HF := hidF (show IsB bb (bs ++ latinL l) wr ∧ BStep bb w wr by
            have := hst.out
            rw [List.take_of_length_le (by omega)] at this
            exact this)
          clear hst
          go_wp2_with fail
          go_ret
          exact ⟨rfl, HF.out⟩
    · have h3 : lowerL cs.data.toList = ascN ∧ t = l ∧ ∀ c ∈ l, c.toNat < 128 := by
        unfold convL at hconv
        rw [if_neg hu, if_neg hi] at hconv
        split at hconv
        · rename_i h3
          split at hconv
          · rename_i h4
            exact ⟨h3, (Option.some.inj hconv).symm, by simpa using h4⟩
          · cases hconv
        · cases hconv
      obtain ⟨h3, rfl, hlow⟩ := h3
      have hasc := cs_ascii _ _ h3 (fun x hx => (ascN_ok x hx).1)
      have hf1 := fold_any utfS cs w (.inl rfl) hasc
      rw [show utfS.data.toList = utfN from rfl, decide_eq_false hu] at hf1
      have hf2 := fold_any isoS cs w (.inr (.inl rfl)) hasc
      rw [show isoS.data.toList = isoN from rfl, decide_eq_false hi] at hf2
      have hf3 := fold_any ascS cs w (.inr (.inr rfl)) hasc
      rw [show ascS.data.toList = ascN from rfl, decide_eq_true h3] at hf3
      have Hf1 := hidF hf1
      have Hf2 := hidF hf2
      have Hf3 := hidF hf3
      have Hc := hidF hc
      have Hlow := hidF hlow
      clear hf1 hf2 hf3 hasc hu hi h3 hconv hc hlow
      have h0 := hidF (show IsB bb (bs ++ t.take 0) w by simpa using h)
      go_enter Tryd.func31, Tryd.ntmps31
      go_wp2_with fail
      refine Hf1.out.mono ?_
      rintro e w1 ⟨rfl, rfl⟩
      go_wp2_with fail
      refine Hf2.out.mono ?_
      rintro e w1 ⟨rfl, rfl⟩
      go_wp2_with fail
      refine Hf3.out.mono ?_
      rintro e w1 ⟨rfl, rfl⟩
      go_wp2_with fail
      go_loopw [72] (fun kv wr => ∃ k : Nat, k ≤ t.length ∧ kv = .int .i64 k ∧ Hid (IsB bb (bs ++ t.take k) wr ∧ BStep bb w wr)) (fun kv _ => t.length - (intOf kv).toNat)
      case atStart => exact ⟨0, Nat.zero_le _, rfl, hidF ⟨h0.out, BStep.refl _ _⟩⟩
      case round =>
        obtain ⟨k, hk, rfl, hst⟩ := hrel
        by_cases hkl : k < t.length
        · have hkz : (k : Int) < (t.length : Int) := by omega
          obtain ⟨c, hcc⟩ : ∃ c, t[k]? = some c := ⟨_, List.getElem?_eq_getElem hkl⟩
          have hcell : wr.cell? ⟨g, k, none⟩ = some (.int .u8 (c.toNat : Int)) := hst.out.2.cell ha (Hc.out k c hcc)
          have hc7 : (c.toNat : Int) < 128 := by have := Hlow.out c (List.mem_of_getElem? hcc); omega
          have hnx := hidF (show t.take (k + 1) = t.take k ++ [c] by rw [List.take_add_one, hcc]; rfl)
          have hcall := hidF (WriteByte_R bb _ c _ rfl wr hst.out.1 (by rw [List.length_append]; have := List.length_take_le k t; omega))
          clear hcc
          go_wp2_with fail
          refine hcall.out.mono ?_
          rintro e w2 ⟨rfl, hB, hS⟩
          have HF := hidF (show IsB bb (bs ++ t.take (k + 1)) w2 ∧ BStep bb w w2 from ⟨by rw [hnx.out, ← List.append_assoc]; exact hB.is, hst.out.2.trans hS⟩)
          clear hB hS hcall hnx hst hcell
          go_wp2_with fail
          go_roundw
          case rel => exact ⟨k + 1, hkl, by go_num, HF⟩
          case measure => simp [intOf]; omega
        · have hkz : ¬ (k : Int) < (t.length : Int) := by omega
          have HF := hidF (show IsB bb (bs ++ t) wr ∧ BStep bb w wr by
            have := hst.out
            rw [List.take_of_length_le (by omega)] at this
            exact this)
          clear hst
          go_wp2_with fail
          go_ret
          exact ⟨rfl, HF.out⟩
end Go.Proofs.YtbpoecfbcmdeeaaDoor
