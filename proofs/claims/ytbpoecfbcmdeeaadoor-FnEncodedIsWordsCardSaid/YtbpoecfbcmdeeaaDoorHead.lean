/- spec.Marked and spec.Header: the walks. -/
import Derived.Test.YtbpoecfbcmdeeaaDoorHeadL
import Derived.Test.YtbpoecfbcmdeeaaDoorDec
import Derived.Outline
namespace Go.Proofs.YtbpoecfbcmdeeaaDoor
open Go.RowKit

theorem take_while_take (p : UInt8 → Bool) : ∀ l : List UInt8, l.takeWhile p = l.take (l.takeWhile p).length
  | [] => rfl
  | c :: r => by
    cases h : p c with
    | true =>
      rw [List.takeWhile_cons_of_pos h, List.length_cons, List.take_succ_cons]
      congr 1
      exact take_while_take p r
    | false => rw [List.takeWhile_cons_of_neg (by simp [h])]; rfl
theorem drop_while_drop (p : UInt8 → Bool) : ∀ l : List UInt8, l.dropWhile p = l.drop (l.takeWhile p).length
  | [] => rfl
  | c :: r => by
    cases h : p c with
    | true =>
      rw [List.takeWhile_cons_of_pos h, List.dropWhile_cons_of_pos h, List.length_cons, List.drop_succ_cons]
      exact drop_while_drop p r
    | false => rw [List.takeWhile_cons_of_neg (by simp [h]), List.dropWhile_cons_of_neg (by simp [h])]; rfl
theorem inrun_at (p : UInt8 → Bool) : ∀ (l : List UInt8) (k : Nat), k < (l.takeWhile p).length → ∃ c, l[k]? = some c ∧ p c = true
  | [], k, h => by simp at h
  | c :: r, k, h => by
    cases hc : p c with
    | false => rw [List.takeWhile_cons_of_neg (by simp [hc])] at h; simp at h
    | true =>
      rw [List.takeWhile_cons_of_pos hc, List.length_cons] at h
      cases k with
      | zero => exact ⟨c, rfl, hc⟩
      | succ k => exact inrun_at p r k (by omega)
theorem inrun_end (p : UInt8 → Bool) : ∀ (l : List UInt8) (c : UInt8), l[(l.takeWhile p).length]? = some c → p c = false
  | [], c, h => by simp at h
  | x :: r, c, h => by
    cases hx : p x with
    | false =>
      rw [List.takeWhile_cons_of_neg (by simp [hx])] at h
      simp at h
      rw [← h]; exact hx
    | true =>
      rw [List.takeWhile_cons_of_pos hx, List.length_cons, List.getElem?_cons_succ] at h
      exact inrun_end p r c h
theorem run_le (p : UInt8 → Bool) (l : List UInt8) : (l.takeWhile p).length ≤ l.length := (List.takeWhile_sublist p).length_le

theorem u8_beq (a : UInt8) (n : Nat) (hn : n < 256) : ((a.toNat : Int) == (n : Int)) = (a == UInt8.ofNat n) := by
  rw [Bool.eq_iff_iff, beq_iff_eq, beq_iff_eq]
  constructor
  · intro h; apply UInt8.toNat_inj.1; rw [UInt8.toNat_ofNat']; omega
  · intro h; rw [h, UInt8.toNat_ofNat']; omega

set_option maxHeartbeats 2000000 in
theorem marked_any (s : ByteArray) (w : World) (hs : s.size ≤ 1000000) :
    Calls Tryd.prog 15 #[.string s] w fun e w' => e = .returned (.bool (markedL s.data.toList)) ∧ w = w' := by
  have Hsl := hidF (size_of_list s)
  go_enter Tryd.func15, Tryd.ntmps15
  go_wp2_with fail
  go_loop [3] (fun iv => ∃ k : Nat, k ≤ s.size ∧ iv = .int .i64 (k + 1 : Nat) ∧ Hid (markedL s.data.toList = markedL (s.data.toList.drop k))) (fun iv => s.size + 1 - (intOf iv).toNat)
  case atStart => exact ⟨0, Nat.zero_le _, rfl, hidF (by rw [List.drop_zero])⟩
  case round =>
    obtain ⟨k, hk, rfl, hst⟩ := hrel
    by_cases hlt : k + 1 < s.size
    · have hz : ((k + 1 : Nat) : Int) < (s.size : Int) := by omega
      have hz0 : k < s.size := by omega
      have hz1 : (k : Int) < (s.size : Int) := by omega
      have hd := drop_cons s k (by omega)
      rw [drop_cons s (k + 1) hlt] at hd
      have hm := hst.out
      rw [hd] at hm
      have hm2 : markedL (s[k] :: s[k + 1] :: s.data.toList.drop (k + 1 + 1)) = ((s[k] == 61 && s[k + 1] == 63) || (s[k] == 63 && s[k + 1] == 61) || markedL (s[k + 1] :: s.data.toList.drop (k + 1 + 1))) := rfl
      rw [hm2, ← drop_cons s (k + 1) hlt] at hm
      have hn := hidF hm
      have b1 : ((s[k].toNat : Int) == 61) = (s[k] == 61) := u8_beq s[k] 61 (by decide)
      have b2 : ((s[k].toNat : Int) == 63) = (s[k] == 63) := u8_beq s[k] 63 (by decide)
      have b3 : ((s[k + 1].toNat : Int) == 61) = (s[k + 1] == 61) := u8_beq s[k + 1] 61 (by decide)
      have b4 : ((s[k + 1].toNat : Int) == 63) = (s[k + 1] == 63) := u8_beq s[k + 1] 63 (by decide)
      have x0 : ((k + 1 : Nat) : Int) - 1 = (k : Int) := by omega
      have x1 : ((k + 1 : Nat) : Int).toNat = k + 1 := by omega
      clear hd hm hm2 hst
      cases e1 : (s[k] == 61) <;> cases e2 : (s[k] == 63) <;> cases e3 : (s[k + 1] == 61) <;> cases e4 : (s[k + 1] == 63)
      all_goals
        rw [e1] at b1
        rw [e2] at b2
        rw [e3] at b3
        rw [e4] at b4
        have hn2 := hn.out
        rw [e1, e2, e3, e4] at hn2
        simp only [Bool.and_true, Bool.and_false, Bool.or_true, Bool.or_false, Bool.true_or, Bool.false_or] at hn2
        have hn3 := hidF hn2
        clear hn2 hn e1 e2 e3 e4
        go_wp2_with fail
        first
          | (go_ret; exact ⟨by rw [hn3.out]; rfl, rfl⟩)
          | (go_round
             case rel => exact ⟨k + 1, by omega, by go_num, hn3⟩
             case measure => simp [intOf]; omega)
    · have hz : ¬ ((k + 1 : Nat) : Int) < (s.size : Int) := by omega
      have hfin := hidF (show markedL s.data.toList = false by
        rw [hst.out]
        have hl : (s.data.toList.drop k).length ≤ 1 := by rw [List.length_drop, ← Hsl.out]; omega
        match hd : s.data.toList.drop k, hl with
        | [], _ => rfl
        | [_], _ => rfl)
      clear hst
      go_wp2_with fail
      go_ret
      exact ⟨by rw [hfin.out]; rfl, rfl⟩

def okH (c : UInt8) : Bool := decide (32 ≤ c.toNat) && decide (c.toNat ≤ 126)
/-- What a text of words means. -/
def headL (l : List UInt8) : Option (List UInt8) := if l.all okH then specL l [] false else none

theorem bcat (a b : ByteArray) : (a ++ b).data.toList = a.data.toList ++ b.data.toList := by simp [ByteArray.data_append]
theorem bcat_size (a b : ByteArray) : (a ++ b).size = a.size + b.size := by rw [size_of_list, bcat, List.length_append, ← size_of_list, ← size_of_list]
theorem ext_list (s : ByteArray) (i j : Nat) : (s.extract i j).data.toList = (s.data.toList.drop i).take (j - i) := by rw [extract_mkB, mkB_list]

theorem decoded_len (l t : List UInt8) (h : decodedL l = some t) : t.length ≤ 2 * l.length := by
  obtain ⟨cs, e, tx, b, hc⟩ := decodedL_coded _ _ h
  have h1 := conv_len _ _ _ hc.conv
  have h2 := way_len _ _ _ hc.way
  have h3 : l.length = cs.length + tx.length + 7 := by rw [hc.text]; simp; omega
  omega

theorem goodOut_list (b : ByteArray) : goodOut b.data.toList = .returned (.tuple #[.string b, .int .i64 0]) := by unfold goodOut; rw [list_mkB]

/-- Where Header stands. -/
def AtH (s : List UInt8) (i : Nat) (o bl : List UInt8) (cd : Bool) : Prop := specL s [] false = (specL (s.drop i) bl cd).map (o ++ ·)

theorem atH_sp {s o bl : List UInt8} {i m : Nat} {cd : Bool} {r : List UInt8} (h : AtH s i o bl cd) (hd : s.drop i = 32 :: r) (hm : m = ((s.drop i).takeWhile isSp).length) : AtH s (i + m) o ((s.drop i).take m) cd := by
  unfold AtH at h ⊢
  rw [h, hd, specL_sp, ← hd, take_while_take isSp, drop_while_drop isSp, ← hm, List.drop_drop]
theorem atH_word {s o bl : List UInt8} {i m : Nat} {cd : Bool} {c : UInt8} {r : List UInt8} (h : AtH s i o bl cd) (hd : s.drop i = c :: r) (hc : c ≠ 32) (hm : m = ((s.drop i).takeWhile noSp).length) (hk : markedL ((s.drop i).take m) = false) :
    AtH s (i + m) (o ++ bl ++ (s.drop i).take m) [] false := by
  have hk2 : markedL ((c :: r).takeWhile noSp) = false := by rw [← hd, take_while_take noSp, ← hm]; exact hk
  unfold AtH at h ⊢
  rw [h, hd, specL_word c r _ _ hc hk2, ← hd, take_while_take noSp, drop_while_drop noSp, ← hm, List.drop_drop]
  cases specL (s.drop (i + m)) [] false with
  | none => rfl
  | some x => simp
theorem atH_none {s o bl : List UInt8} {i m : Nat} {cd : Bool} {c : UInt8} {r : List UInt8} (h : AtH s i o bl cd) (hd : s.drop i = c :: r) (hc : c ≠ 32) (hm : m = ((s.drop i).takeWhile noSp).length) (hk : markedL ((s.drop i).take m) = true) (hn : decodedL ((s.drop i).take m) = none) :
    specL s [] false = none := by
  have hk2 : markedL ((c :: r).takeWhile noSp) = true := by rw [← hd, take_while_take noSp, ← hm]; exact hk
  unfold AtH at h
  rw [h, hd, specL_mark c r _ _ hc hk2, ← hd, take_while_take noSp, ← hm, hn]; rfl
theorem atH_mark {s o bl t : List UInt8} {i m : Nat} {cd : Bool} {c : UInt8} {r : List UInt8} (h : AtH s i o bl cd) (hd : s.drop i = c :: r) (hc : c ≠ 32) (hm : m = ((s.drop i).takeWhile noSp).length) (hk : markedL ((s.drop i).take m) = true) (hn : decodedL ((s.drop i).take m) = some t) :
    AtH s (i + m) (o ++ (if cd then [] else bl) ++ t) [] true := by
  have hk2 : markedL ((c :: r).takeWhile noSp) = true := by rw [← hd, take_while_take noSp, ← hm]; exact hk
  unfold AtH at h ⊢
  rw [h, hd, specL_mark c r _ _ hc hk2, ← hd, take_while_take noSp, drop_while_drop noSp, ← hm, List.drop_drop, hn]
  cases specL (s.drop (i + m)) [] true with
  | none => rfl
  | some x => simp

set_option maxHeartbeats 8000000 in
set_option maxRecDepth 100000 in
theorem header_any (s : ByteArray) (w : World) (hs : s.size ≤ 1000000) (hT : Lib.Utf8Tabs 0 1 w) :
    Calls Tryd.prog 9 #[.string s] w (DecOut (headL s.data.toList) w) := by
  have Hsl := hidF (size_of_list s)
  go_enter Tryd.func9, Tryd.ntmps9
  go_wp2_with fail
  go_loop [16] (fun kv => ∃ k : Nat, k ≤ s.size ∧ kv = .int .i64 k ∧ Hid ((s.data.toList.take k).all okH = true)) (fun kv => s.size - (intOf kv).toNat)
  case atStart => exact ⟨0, Nat.zero_le _, rfl, hidF rfl⟩
  case round =>
    obtain ⟨k, hk, rfl, hst⟩ := hrel
    by_cases hlt : k < s.size
    · have hz : (k : Int) < (s.size : Int) := by omega
      have hgk := get_of s k hlt
      by_cases hok : okH s[k] = true
      · have h1 : 32 ≤ s[k].toNat ∧ s[k].toNat ≤ 126 := by simpa [okH] using hok
        have g1 : ¬ (s[k].toNat : Int) < 32 := by omega
        have g2 : ¬ (126 : Int) < (s[k].toNat : Int) := by omega
        have hn := hidF (show (s.data.toList.take (k + 1)).all okH = true by
          rw [List.take_add_one, hgk, List.all_append, hst.out]; simp [hok])
        clear hst hgk hok h1
        go_wp2_with fail
        go_round
        case rel => exact ⟨k + 1, hlt, by go_num, hn⟩
        case measure => simp [intOf]; omega
      · have hout := hidF (show headL s.data.toList = none by
          unfold headL
          rw [if_neg]
          intro h
          rw [List.all_eq_true] at h
          exact hok (h _ (List.mem_of_getElem? hgk)))
        have h1 : ¬ (32 ≤ s[k].toNat ∧ s[k].toNat ≤ 126) := by simpa [okH] using hok
        clear hst hgk hok
        by_cases g0 : s[k].toNat < 32
        · have g1 : (s[k].toNat : Int) < 32 := by omega
          clear h1 g0
          go_wp2_with fail
          go_ret2
          exact ⟨Below.refl _ _, by rw [hout.out]; rfl⟩
        · have g1 : ¬ (s[k].toNat : Int) < 32 := by omega
          have g2 : (126 : Int) < (s[k].toNat : Int) := by omega
          clear h1 g0
          go_wp2_with fail
          go_ret2
          exact ⟨Below.refl _ _, by rw [hout.out]; rfl⟩
    · have hz : ¬ (k : Int) < (s.size : Int) := by omega
      have hall := hidF (show headL s.data.toList = specL s.data.toList [] false by
        unfold headL
        rw [if_pos]
        have := hst.out
        rw [List.take_of_length_le (by rw [← Hsl.out]; omega)] at this
        exact this)
      have hat0 := hidF (show AtH s.data.toList 0 [] [] false by
        unfold AtH
        rw [List.drop_zero]
        cases specL s.data.toList [] false <;> rfl)
      clear hst
      go_wp2_with fail
      clear hz hlt hk
      go_loopw [5, 6, 7, 8] (fun ov bv cv iv wr => ∃ (i : Nat) (o bl : ByteArray) (cd : Bool), i ≤ s.size ∧ ov = .string o ∧ bv = .string bl ∧ cv = .bool cd ∧ iv = .int .i64 i ∧ o.size + bl.size ≤ 2 * i ∧ Below w.heap.size w wr ∧ Hid (AtH s.data.toList i o.data.toList bl.data.toList cd)) (fun _ _ _ iv _ => s.size - (intOf iv).toNat)
      case atStart => exact ⟨0, ⟨#[]⟩, ⟨#[]⟩, false, Nat.zero_le _, rfl, rfl, rfl, rfl, by decide, Below.refl _ _, hat0⟩
      case round =>
        clear hat0
        obtain ⟨i, o, bl, cd, hi, rfl, rfl, rfl, rfl, hol, hb, hst⟩ := hrel
        by_cases hlt : i < s.size
        · have hz : (i : Int) < (s.size : Int) := by omega
          have hd := drop_cons s i hlt
          by_cases h32 : s[i] = 32
          · obtain ⟨m, hm⟩ : ∃ m, m = ((s.data.toList.drop i).takeWhile isSp).length := ⟨_, rfl⟩
            obtain ⟨en, hen⟩ : ∃ en, en = i + m := ⟨_, rfl⟩
            have hin : ∀ j (h1 : i ≤ j) (h2 : j < en), ∃ h : j < s.size, s[j] = 32 := by
              intro j h1 h2
              obtain ⟨c, hc, hp⟩ := inrun_at isSp (s.data.toList.drop i) (j - i) (by omega)
              rw [List.getElem?_drop, show i + (j - i) = j by omega] at hc
              have hj : j < s.size := by rw [size_of_list]; exact (List.getElem?_eq_some_iff.1 hc).1
              refine ⟨hj, ?_⟩
              rw [get_of s j hj] at hc
              rw [Option.some.inj hc]; simpa [isSp] using hp
            have hou : ∀ h : en < s.size, s[en] ≠ 32 := by
              intro h e
              have := inrun_end isSp (s.data.toList.drop i) s[en] (by rw [← hm, List.getElem?_drop, ← hen]; exact get_of s _ h)
              rw [e] at this; cases this
            have hm1 : 1 ≤ m := by rw [hm, hd, h32, List.takeWhile_cons_of_pos (by decide)]; simp
            have hml : en ≤ s.size := by have := run_le isSp (s.data.toList.drop i); rw [List.length_drop, ← Hsl.out] at this; omega
            have hie : i < en := by omega
            obtain ⟨bl2, hbl2⟩ : ∃ x, x = s.extract i en := ⟨_, rfl⟩
            have hx := hbl2.symm
            have hnx := hidF (show AtH s.data.toList en o.data.toList bl2.data.toList cd by
              rw [hbl2, ext_list, hen, Nat.add_sub_cancel_left]
              exact atH_sp hst.out (by rw [hd, h32]) hm)
            have hsz2 : bl2.size = m := by rw [hbl2, size_of_list, ext_list, List.length_take, List.length_drop, ← Hsl.out]; omega
            have hsz3 : o.size + bl2.size ≤ 2 * en := by omega
            have Hin := hidF hin
            have Hou := hidF hou
            have q0 : ((s[i].toNat : Int) == 32) = true := by rw [h32]; rfl
            clear hm hm1 hin hou hbl2 hsz2 hd h32 hst hen
            go_wp2_with fail
            go_loop [9] (fun nv => ∃ j : Nat, i ≤ j ∧ j ≤ en ∧ nv = .int .i64 j) (fun nv => en - (intOf nv).toNat)
            case atStart => exact ⟨i, Nat.le_refl _, by omega, rfl⟩
            case round =>
              obtain ⟨j, hj1, hj2, rfl⟩ := hrel
              by_cases hjm : j < en
              · obtain ⟨hjs, hj32⟩ := Hin.out j hj1 hjm
                have hjz : (j : Int) < (s.size : Int) := by omega
                have q1 : ((s[j].toNat : Int) == 32) = true := by rw [hj32]; rfl
                clear hj32
                go_wp2_with fail
                go_round
                case rel => exact ⟨j + 1, by omega, by omega, by go_num⟩
                case measure => simp [intOf]; omega
              · obtain rfl : j = en := by omega
                have hrel2 := hidF (show ∃ (i2 : Nat) (o2 bl3 : ByteArray) (cd2 : Bool), i2 ≤ s.size ∧ Value.string o = .string o2 ∧ Value.string bl2 = .string bl3 ∧ Value.bool cd = .bool cd2 ∧ Value.int IntKind.i64 (j : Int) = .int .i64 i2 ∧ o2.size + bl3.size ≤ 2 * i2 ∧ Below w.heap.size w wr ∧ Hid (AtH s.data.toList i2 o2.data.toList bl3.data.toList cd2) from
                  ⟨j, o, bl2, cd, hml, rfl, rfl, rfl, rfl, hsz3, hb, hnx⟩)
                have p1 : (i : Int) ≤ (j : Int) := by omega
                have p2 : (j : Int) ≤ (s.size : Int) := by omega
                by_cases hend : j < s.size
                · have hjz : (j : Int) < (s.size : Int) := by omega
                  have hne := Hou.out hend
                  have q1 : ((s[j].toNat : Int) == 32) = false := beq_eq_false_iff_ne.2 (fun e => hne (UInt8.toNat_inj.1 (by have : (32 : UInt8).toNat = 32 := rfl; omega)))
                  clear hne hnx
                  go_wp2_with fail
                  go_roundw
                  case rel => exact hrel2.out
                  case measure => simp [intOf]; omega
                · have hjz : ¬ (j : Int) < (s.size : Int) := by omega
                  clear hnx
                  go_wp2_with fail
                  go_roundw
                  case rel => exact hrel2.out
                  case measure => simp [intOf]; omega
          · obtain ⟨m, hm⟩ : ∃ m, m = ((s.data.toList.drop i).takeWhile noSp).length := ⟨_, rfl⟩
            obtain ⟨en, hen⟩ : ∃ en, en = i + m := ⟨_, rfl⟩
            have hin : ∀ j (h1 : i ≤ j) (h2 : j < en), ∃ h : j < s.size, s[j] ≠ 32 := by
              intro j h1 h2
              obtain ⟨c, hc, hp⟩ := inrun_at noSp (s.data.toList.drop i) (j - i) (by omega)
              rw [List.getElem?_drop, show i + (j - i) = j by omega] at hc
              have hj : j < s.size := by rw [size_of_list]; exact (List.getElem?_eq_some_iff.1 hc).1
              refine ⟨hj, ?_⟩
              rw [get_of s j hj] at hc
              rw [Option.some.inj hc]; simpa [noSp] using hp
            have hou : ∀ h : en < s.size, s[en] = 32 := by
              intro h
              have := inrun_end noSp (s.data.toList.drop i) s[en] (by rw [← hm, List.getElem?_drop, ← hen]; exact get_of s _ h)
              simpa [noSp] using this
            have hm1 : 1 ≤ m := by rw [hm, hd, List.takeWhile_cons_of_pos (by simpa [noSp] using h32)]; simp
            have hml : en ≤ s.size := by have := run_le noSp (s.data.toList.drop i); rw [List.length_drop, ← Hsl.out] at this; omega
            have hie : i < en := by omega
            obtain ⟨wd, hwd⟩ : ∃ x, x = s.extract i en := ⟨_, rfl⟩
            have hx := hwd.symm
            have hwl : wd.data.toList = (s.data.toList.drop i).take m := by rw [hwd, ext_list, hen, Nat.add_sub_cancel_left]
            have hws : wd.size = m := by rw [hwd, size_of_list, ext_list, List.length_take, List.length_drop, ← Hsl.out]; omega
            have hbase : i + wd.size = en := by omega
            have Hb := hidF (show ∀ mk, mk = markedL wd.data.toList →
                (mk = false → AtH s.data.toList en (o.data.toList ++ bl.data.toList ++ wd.data.toList) [] false) ∧
                (mk = true → decodedL wd.data.toList = none → specL s.data.toList [] false = none) ∧
                (mk = true → ∀ t, decodedL wd.data.toList = some t → AtH s.data.toList en (o.data.toList ++ (if cd then [] else bl.data.toList) ++ t) [] true) from by
              intro mk hmk
              rw [hwl] at hmk ⊢
              rw [hen]
              exact ⟨fun h => atH_word hst.out hd h32 hm (by rw [← hmk, h]), fun h hn => atH_none hst.out hd h32 hm (by rw [← hmk, h]) hn, fun h t hn => atH_mark hst.out hd h32 hm (by rw [← hmk, h]) hn⟩)
            have Hin := hidF hin
            have Hou := hidF hou
            have Hbase := hidF hbase
            have q0 : ((s[i].toNat : Int) == 32) = false := beq_eq_false_iff_ne.2 (fun e => h32 (UInt8.toNat_inj.1 (by have : (32 : UInt8).toNat = 32 := rfl; omega)))
            have hmark := hidF (marked_any wd wr (by omega))
            have hdec := hidF (decoded_any wd wr (by omega) (utf8_below hT hb))
            have hwsz : wd.size ≤ 1000000 := by omega
            clear hm hm1 hin hou hwd hws hwl hbase hd h32 hst hen
            have HWSZ := hidF hwsz
            go_wp2_with fail
            go_loop [9] (fun nv => ∃ j : Nat, i ≤ j ∧ j ≤ en ∧ nv = .int .i64 j) (fun nv => en - (intOf nv).toNat)
            case atStart => exact ⟨i, Nat.le_refl _, by omega, rfl⟩
            case round =>
              obtain ⟨j, hj1, hj2, rfl⟩ := hrel
              by_cases hjm : j < en
              · obtain ⟨hjs, hj32⟩ := Hin.out j hj1 hjm
                have hjz : (j : Int) < (s.size : Int) := by omega
                have q1 : ((s[j].toNat : Int) != 32) = true := bne_iff_ne.2 (fun e => hj32 (UInt8.toNat_inj.1 (by have : (32 : UInt8).toNat = 32 := rfl; omega)))
                clear hj32
                go_wp2_with fail
                go_round
                case rel => exact ⟨j + 1, by omega, by omega, by go_num⟩
                case measure => simp [intOf]; omega
              · obtain rfl : j = en := by omega
                have p1 : (i : Int) ≤ (j : Int) := by omega
                have p2 : (j : Int) ≤ (s.size : Int) := by omega
                have n1 : ¬ 9223372036854775807 < o.size + bl.size := by omega
                have n2 : ¬ 9223372036854775807 < o.size + bl.size + wd.size := by omega
                by_cases hend : j < s.size
                all_goals
                  first
                    | (have hjz : (j : Int) < (s.size : Int) := by omega
                       have hne := Hou.out hend
                       have q1 : ((s[j].toNat : Int) != 32) = false := by rw [hne]; rfl
                       clear hne)
                    | (have hjz : ¬ (j : Int) < (s.size : Int) := by omega)
                  go_wp2_with fail
                  refine hmark.out.mono ?_
                  rintro e wx ⟨rfl, rfl⟩
                  cases hmk : markedL wd.data.toList with
                  | false =>
                    have hat := hidF ((Hb.out false hmk.symm).1 rfl)
                    have hrel2 := hidF (show ∃ (i2 : Nat) (o2 bl3 : ByteArray) (cd2 : Bool), i2 ≤ s.size ∧ Value.string (o ++ bl ++ wd) = .string o2 ∧ Value.string ⟨#[]⟩ = .string bl3 ∧ Value.bool false = .bool cd2 ∧ Value.int IntKind.i64 (j : Int) = .int .i64 i2 ∧ o2.size + bl3.size ≤ 2 * i2 ∧ Below w.heap.size w wr ∧ Hid (AtH s.data.toList i2 o2.data.toList bl3.data.toList cd2) from
                      ⟨j, o ++ bl ++ wd, ⟨#[]⟩, false, hml, rfl, rfl, rfl, rfl, by rw [bcat_size, bcat_size]; have := Hbase.out; show _ + 0 ≤ _; omega, hb, hidF (by rw [bcat, bcat]; exact hat.out)⟩)
                    clear hmk hat
                    cases cd
                    all_goals
                      go_wp2_with fail
                      go_roundw
                      case rel => exact hrel2.out
                      case measure => simp [intOf]; omega
                  | true =>
                    have HBn := hidF ((Hb.out true hmk.symm).2.1 rfl)
                    have HBs := hidF ((Hb.out true hmk.symm).2.2 rfl)
                    clear hmk
                    go_wp2_with fail
                    refine hdec.out.mono ?_
                    rintro e wx ⟨hbx, he⟩
                    have hbx2 := hb.trans (hbx.mono hb.size)
                    cases hdd : decodedL wd.data.toList with
                    | none =>
                      have hout := hidF (show headL s.data.toList = none by rw [hall.out]; exact HBn.out hdd)
                      rw [hdd] at he
                      have he2 : e = openOut := he
                      unfold openOut at he2
                      subst he2
                      clear hdd he
                      go_wp2_with fail
                      go_ret2
                      exact ⟨hbx2, by rw [hout.out]; rfl⟩
                    | some t =>
                      have hat := hidF (HBs.out t hdd)
                      have htl := decoded_len _ _ hdd
                      rw [← size_of_list] at htl
                      rw [hdd] at he
                      have he2 : e = goodOut t := he
                      unfold goodOut at he2
                      subst he2
                      obtain ⟨tB, htB⟩ : ∃ x, x = mkB t := ⟨_, rfl⟩
                      have HtB := hidF (show tB.data.toList = t by rw [htB, mkB_list])
                      have hts : tB.size ≤ 2 * wd.size := by rw [htB, size_mkB]; exact htl
                      rw [← htB]
                      have n3 : ¬ 9223372036854775807 < o.size + tB.size := by omega
                      have n4 : ¬ 9223372036854775807 < o.size + bl.size + tB.size := by omega
                      clear hdd he htB htl
                      cases cd with
                      | true =>
                        have hrel2 := hidF (show ∃ (i2 : Nat) (o2 bl3 : ByteArray) (cd2 : Bool), i2 ≤ s.size ∧ Value.string (o ++ tB) = .string o2 ∧ Value.string ⟨#[]⟩ = .string bl3 ∧ Value.bool true = .bool cd2 ∧ Value.int IntKind.i64 (j : Int) = .int .i64 i2 ∧ o2.size + bl3.size ≤ 2 * i2 ∧ Below w.heap.size w wx ∧ Hid (AtH s.data.toList i2 o2.data.toList bl3.data.toList cd2) from
                          ⟨j, o ++ tB, ⟨#[]⟩, true, hml, rfl, rfl, rfl, rfl, by rw [bcat_size]; have := Hbase.out; show _ + 0 ≤ _; omega, hbx2, hidF (by rw [bcat, HtB.out]; have := hat.out; simpa using this)⟩)
                        clear hat
                        go_wp2_with fail
                        go_roundw
                        case rel => exact hrel2.out
                        case measure => simp [intOf]; omega
                      | false =>
                        have hrel2 := hidF (show ∃ (i2 : Nat) (o2 bl3 : ByteArray) (cd2 : Bool), i2 ≤ s.size ∧ Value.string (o ++ bl ++ tB) = .string o2 ∧ Value.string ⟨#[]⟩ = .string bl3 ∧ Value.bool true = .bool cd2 ∧ Value.int IntKind.i64 (j : Int) = .int .i64 i2 ∧ o2.size + bl3.size ≤ 2 * i2 ∧ Below w.heap.size w wx ∧ Hid (AtH s.data.toList i2 o2.data.toList bl3.data.toList cd2) from
                          ⟨j, o ++ bl ++ tB, ⟨#[]⟩, true, hml, rfl, rfl, rfl, rfl, by rw [bcat_size, bcat_size]; have := Hbase.out; show _ + 0 ≤ _; omega, hbx2, hidF (by rw [bcat, bcat, HtB.out]; have := hat.out; simpa using this)⟩)
                        clear hat
                        go_wp2_with fail
                        go_roundw
                        case rel => exact hrel2.out
                        case measure => simp [intOf]; omega
        · have hz : ¬ (i : Int) < (s.size : Int) := by omega
          have n1 : ¬ 9223372036854775807 < o.size + bl.size := by omega
          have hfin := hidF (show headL s.data.toList = some (o ++ bl).data.toList by
            have h := hst.out
            unfold AtH at h
            rw [hall.out, h, drop_end s i hlt, specL_nil, bcat]; rfl)
          clear hst
          go_wp2_with fail
          go_ret2
          exact ⟨hb, by rw [hfin.out]; show _ = goodOut (o ++ bl).data.toList; rw [goodOut_list]; rfl⟩
end Go.Proofs.YtbpoecfbcmdeeaaDoor
