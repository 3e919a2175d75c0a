/- gomime's qEncode: the walk. -/
import Derived.Test.YtbpoecfbcmdeeaaDoorEncQW
import Derived.Test.YtbpoecfbcmdeeaaDoorDHead
namespace Go.Proofs.YtbpoecfbcmdeeaaDoor
open Go.RowKit

theorem decodeL_four (l : List UInt8) : (Lib.decodeL l).2 ≤ 4 := by
  rw [Lib.decodeL_N l]
  rcases Lib.decodeN_shape l.length (l.getD 0 0).toNat (l.getD 1 0).toNat (l.getD 2 0).toNat (l.getD 3 0).toNat with ⟨_, e⟩ | ⟨_, _, _, _, e⟩ | ⟨_, _, _, _, _, _, e⟩ | ⟨_, _, _, _, _, _, _, e⟩ | e <;> rw [e] <;> simp

theorem qL_high : ∀ (l : List UInt8), (∀ c ∈ l, 128 ≤ c.toNat) → (qL l).length = 3 * l.length
  | [], _ => rfl
  | c :: r, h => by
    have hc := h c (by simp)
    have h1 : (qC c).length = 3 := by
      unfold qC
      rw [if_neg (fun e => by rw [e] at hc; exact absurd hc (by decide)), if_neg]
      · rfl
      · intro hs
        have h5 : ((33 ≤ c.toNat ∧ c.toNat ≤ 126) ∧ c ≠ 61 ∧ c ≠ 63) ∧ c ≠ 95 := by simpa [selfQ, and_assoc] using hs
        omega
    rw [qL_cons, List.length_append, h1, qL_high r (fun x hx => h x (by simp [hx])), List.length_cons]; omega

/-- The next rune of a text of UTF-8, and how long it is by Q. -/
theorem rune_next (l : List UInt8) (hne : l ≠ []) (hv : Lib.validD l = true) (n : Nat) (hn : n = (Lib.decodeL l).2) :
    1 ≤ n ∧ n ≤ 4 ∧ n ≤ l.length ∧ Lib.validD (l.take n) = true ∧ Lib.validD (l.drop n) = true ∧ (¬ (∃ c r, l = c :: r ∧ (c = 32 ∨ selfQ c = true)) → (qL (l.take n)).length = 3 * n) := by
  subst hn
  have h1 := utf_step l hne hv
  refine ⟨Lib.decodeL_width l, decodeL_four l, Lib.decodeL_le l hne, validD_rune l hne hv, h1.2, fun hno => ?_⟩
  cases l with
  | nil => exact absurd rfl hne
  | cons c r =>
    by_cases hc : c.toNat < 128
    · have hd := Lib.decodeL_ascii c r hc
      rw [hd]
      have h32 : c ≠ 32 := fun e => hno ⟨c, r, rfl, .inl e⟩
      have hs : ¬ selfQ c = true := fun e => hno ⟨c, r, rfl, .inr e⟩
      show (qL [c]).length = _
      rw [qL_cons, List.length_append]
      unfold qC
      rw [if_neg h32, if_neg hs]; rfl
    · have h2 := utf_high c r (by omega) hv
      rw [qL_high _ h2.1, List.length_take]
      have := h2.2.1
      omega

set_option maxHeartbeats 8000000 in
set_option maxRecDepth 100000 in
theorem qEncode_any (w0 : World) (b : Nat) (s : ByteArray) (w : World) (hB : BldD w0 b (openL 113 utfN) w) (hT : Lib.Utf8Tabs 0 1 w0) (hv : Lib.validD s.data.toList = true) (hne : s.data.toList ≠ []) (hs : s.size ≤ 4096) :
    Calls Tryd.prog 39 #[.int .u8 113, .pointer (some ⟨b, 0, none⟩), .string utfS, .string s] w fun e w' => e = .returned (.tuple #[]) ∧ ∃ out, BldD w0 b out w' ∧ QDone 113 qL s.data.toList out := by
  have Hsl := hidF (size_of_list s)
  have hu := hidF (isUTF8_any w)
  have h0 := hidF (enc_start 113 qL s.data.toList hv rfl)
  have HB := hidF hB
  have Hne := hidF hne
  clear hB hv hne
  go_enter Tryd.func39, Tryd.ntmps39
  go_wp2_with fail
  refine hu.out.mono ?_
  rintro e w1 ⟨rfl, rfl⟩
  go_wp2_with fail
  clear hu
  go_loopw [8, 10] (fun cv iv wr => ∃ i cl : Nat, i ≤ s.size ∧ cv = .int .i64 cl ∧ iv = .int .i64 i ∧ cl ≤ 63 ∧ Hid (∃ out C cur, EncAtI 113 qL s.data.toList out i C cur ∧ (qL cur).length = cl ∧ BldD w0 b out wr)) (fun _ iv _ => s.size - (intOf iv).toNat)
  case atStart => exact ⟨0, 0, Nat.zero_le _, rfl, rfl, Nat.zero_le _, hidF ⟨_, [], [], h0.out, rfl, HB.out⟩⟩
  case round =>
    obtain ⟨i, cl, hi, rfl, rfl, hcl, hst⟩ := hrel
    by_cases hlt : i < s.size
    · have hz : (i : Int) < (s.size : Int) := by omega
      obtain ⟨out, C, cur, hE, hql, hbd⟩ := hst.out
      have hd := drop_cons s i hlt
      have hne2 : s.data.toList.drop i ≠ [] := by rw [hd]; simp
      have hoL := hE.len
      have key : ∀ (n el : Nat) (rnB : ByteArray), rnB.data.toList = (s.data.toList.drop i).take n → (qL rnB.data.toList).length = el → 1 ≤ n → n ≤ 4 → i + n ≤ s.size → el ≤ 3 * n → Lib.validD ((s.data.toList.drop i).take n) = true → Lib.validD ((s.data.toList.drop i).drop n) = true →
          (cl + el ≤ 63 → ∀ wx, BldD w0 b (out ++ qL rnB.data.toList) wx → ∃ i2 cl2 : Nat, i2 ≤ s.size ∧ Value.int IntKind.i64 ((cl + el : Nat) : Int) = .int .i64 cl2 ∧ Value.int IntKind.i64 ((i + n : Nat) : Int) = .int .i64 i2 ∧ cl2 ≤ 63 ∧ Hid (∃ out C cur, EncAtI 113 qL s.data.toList out i2 C cur ∧ (qL cur).length = cl2 ∧ BldD w0 b out wx)) ∧
          (¬ cl + el ≤ 63 → ∀ wx, BldD w0 b (out ++ ([63, 61, 32] ++ openL 113 utfN) ++ qL rnB.data.toList) wx → ∃ i2 cl2 : Nat, i2 ≤ s.size ∧ Value.int IntKind.i64 ((el : Nat) : Int) = .int .i64 cl2 ∧ Value.int IntKind.i64 ((i + n : Nat) : Int) = .int .i64 i2 ∧ cl2 ≤ 63 ∧ Hid (∃ out C cur, EncAtI 113 qL s.data.toList out i2 C cur ∧ (qL cur).length = cl2 ∧ BldD w0 b out wx)) := by
        intro n el rnB hrn hel h1 h4 hin he3 hv1 hv2
        rw [List.drop_drop] at hv2
        have hin2 : i + n ≤ s.data.toList.length := by rw [← Hsl.out]; exact hin
        refine ⟨fun hle wx hbx => ⟨i + n, cl + el, hin, rfl, rfl, hle, hidF ⟨_, C, _, q_more hE hrn h1 hin2 (by rw [hrn]; exact hv1) hv2 (by omega), by rw [qL_app, List.length_append]; omega, hbx⟩⟩, fun hgt wx hbx => ⟨i + n, el, hin, rfl, rfl, by omega, hidF ⟨_, _, _, q_more2 hE ?_ (by omega) hrn h1 hin2 (by rw [hrn]; exact hv1) hv2 (by omega), hel, hbx⟩⟩⟩
        intro hc
        rw [hc] at hql
        have : cl = 0 := by rw [← hql]; rfl
        omega
      have Key := hidF key
      have hBr := hidF hbd
      have hbel := hidF hbd.below
      have Hst := hidF hst
      have HoL := hidF hoL
      have ht4 := hidF (rune_next _ hne2 hE.rest _ rfl)
      have hx := from_mkB s i
      have hTr := hidF (utf8_below hT hbd.below)
      clear key hE hql hbd hoL hst
      by_cases hA : s[i] = 32 ∨ selfQ s[i] = true
      · have hrr : 32 ≤ s[i].toNat ∧ s[i].toNat ≤ 126 ∧ s[i] ≠ 61 ∧ s[i] ≠ 63 ∧ s[i] ≠ 95 := by
          rcases hA with h | h
          · rw [h]; decide
          · have h5 : ((33 ≤ s[i].toNat ∧ s[i].toNat ≤ 126) ∧ s[i] ≠ 61 ∧ s[i] ≠ 63) ∧ s[i] ≠ 95 := by simpa [selfQ, and_assoc] using h
            exact ⟨by omega, h5.1.1.2, h5.1.2.1, h5.1.2.2, h5.2⟩
        have q1 : (32 : Int) ≤ (s[i].toNat : Int) := by omega
        have q2 : (s[i].toNat : Int) ≤ 126 := by omega
        have q3 : ((s[i].toNat : Int) != 61) = true := bne_iff_ne.2 (fun e => hrr.2.2.1 (UInt8.toNat_inj.1 (by have : (61 : UInt8).toNat = 61 := rfl; omega)))
        have q4 : ((s[i].toNat : Int) != 63) = true := bne_iff_ne.2 (fun e => hrr.2.2.2.1 (UInt8.toNat_inj.1 (by have : (63 : UInt8).toNat = 63 := rfl; omega)))
        have q5 : ((s[i].toNat : Int) != 95) = true := bne_iff_ne.2 (fun e => hrr.2.2.2.2 (UInt8.toNat_inj.1 (by have : (95 : UInt8).toNat = 95 := rfl; omega)))
        obtain ⟨rnB, hrnB⟩ : ∃ x, x = s.extract i (i + 1) := ⟨_, rfl⟩
        have x1 := hrnB.symm
        have hrl : rnB.data.toList = (s.data.toList.drop i).take 1 := by rw [hrnB, extract_mkB, mkB_list, Nat.add_sub_cancel_left]
        have hrl2 : rnB.data.toList = [s[i]] := by rw [hrl, hd]; rfl
        have hq1 : (qL rnB.data.toList).length = 1 := by
          rw [hrl2, qL_cons, List.length_append]
          rcases hA with h | h
          · unfold qC; rw [if_pos h]; rfl
          · unfold qC
            rw [if_neg (fun e => by rw [e] at h; exact absurd h (by decide)), if_pos h]; rfl
        have hn1 : (Lib.decodeL (s.data.toList.drop i)).2 = 1 := by rw [hd, Lib.decodeL_ascii _ _ (by omega)]
        have ht := ht4.out
        rw [hn1] at ht
        have K := hidF (Key.out 1 1 rnB hrl hq1 (by omega) (by omega) (by omega) (by omega) ht.2.2.2.1 ht.2.2.2.2.1)
        have hrs : rnB.size = 1 := by rw [size_of_list, hrl2]; rfl
        have Hrs := hidF hrs
        clear hA hrr hrnB hrl hrl2 hq1 hn1 ht hrs hd hne2
        by_cases hfit : cl + 1 ≤ 63
        · have y1 : ¬ (63 : Int) < (cl : Int) + 1 := by omega
          have Kf := hidF (K.out.1 hfit)
          have hwq := hidF (writeQ_any b rnB out wr hBr.out.bld (by have := Hrs.out; have := HoL.out; omega))
          clear hfit
          go_wp2_with fail
          refine hwq.out.mono ?_
          rintro e w2 ⟨rfl, h2, S2⟩
          have hrel2 := hidF (Kf.out w2 (hBr.out.step h2 S2))
          clear h2 S2 hwq Kf
          go_wp2_with fail
          go_roundw
          case rel => exact hrel2.out
          case measure => simp [intOf]; omega
        · have y1 : (63 : Int) < (cl : Int) + 1 := by omega
          have Kf := hidF (K.out.2 hfit)
          have hsp := hidF (splitWord_any b 113 utfS out wr hBr.out.bld (by have := HoL.out; omega) (by decide))
          clear hfit
          go_wp2_with fail
          refine hsp.out.mono ?_
          rintro e w2 ⟨rfl, h2, S2⟩
          have hB2 := hidF (hBr.out.step h2 S2)
          have hwq := hidF (writeQ_any b rnB _ w2 h2 (by have := Hrs.out; have := HoL.out; simp [openL]; have : utfS.size = 5 := rfl; omega))
          clear h2 S2 hsp
          go_wp2_with fail
          refine hwq.out.mono ?_
          rintro e w3 ⟨rfl, h3, S3⟩
          have hrel2 := hidF (Kf.out w3 (hB2.out.step h3 S3))
          clear h3 S3 hwq Kf
          go_wp2_with fail
          go_roundw
          case rel => exact hrel2.out
          case measure => simp [intOf]; omega
      · obtain ⟨n, hn⟩ : ∃ n, n = (Lib.decodeL (s.data.toList.drop i)).2 := ⟨_, rfl⟩
        obtain ⟨rr, hrr⟩ : ∃ rr, rr = (Lib.decodeL (s.data.toList.drop i)).1 := ⟨_, rfl⟩
        have ht := ht4.out
        rw [← hn] at ht
        have hn3 := ht.2.2.1
        rw [List.length_drop, ← Hsl.out] at hn3
        obtain ⟨rnB, hrnB⟩ : ∃ x, x = s.extract i (i + n) := ⟨_, rfl⟩
        have x1 := hrnB.symm
        have hrl : rnB.data.toList = (s.data.toList.drop i).take n := by rw [hrnB, extract_mkB, mkB_list, Nat.add_sub_cancel_left]
        have hq3 : (qL rnB.data.toList).length = 3 * n := by
          rw [hrl]
          apply ht.2.2.2.2.2
          rintro ⟨c, r, hcr, h⟩
          rw [hd] at hcr
          obtain ⟨hc1, _⟩ := List.cons.inj hcr
          rw [← hc1] at h
          exact hA h
        have hin : i + n ≤ s.size := by omega
        have hn1 := ht.1
        have hn4 := ht.2.1
        have K := hidF (Key.out n (3 * n) rnB hrl hq3 hn1 hn4 hin (Nat.le_refl _) ht.2.2.2.1 ht.2.2.2.2.1)
        have Hrs := hidF (show rnB.size = n by rw [size_of_list, hrl, List.length_take, List.length_drop, ← Hsl.out]; omega)
        have hdec := hidF (show Calls Tryd.prog 59 #[.string (mkB (s.data.toList.drop i))] wr fun e w' => e = .returned (.tuple #[.int .i32 (rr : Int), .int .i64 (n : Int)]) ∧ Below wr.heap.size wr w' from
          (Tryd.utf8_DecodeRuneInString (mkB (s.data.toList.drop i)) wr hTr.out).mono (by
            rintro e w' ⟨rfl, hb'⟩
            exact ⟨by rw [decodeGo_list _ hne2, ← hn, ← hrr], hb'⟩))
        have h32 : s[i] ≠ 32 := fun e => hA (.inl e)
        have hself : ¬ selfQ s[i] = true := fun e => hA (.inr e)
        have hc8 := s[i].toNat_lt
        have alt : s[i].toNat < 32 ∨ (32 ≤ s[i].toNat ∧ 126 < s[i].toNat) ∨ (32 ≤ s[i].toNat ∧ s[i].toNat ≤ 126 ∧ s[i] = 61) ∨ (32 ≤ s[i].toNat ∧ s[i].toNat ≤ 126 ∧ s[i] ≠ 61 ∧ s[i] = 63) ∨ (32 ≤ s[i].toNat ∧ s[i].toNat ≤ 126 ∧ s[i] ≠ 61 ∧ s[i] ≠ 63 ∧ s[i] = 95) := by
          by_cases a1 : s[i].toNat < 32
          · exact .inl a1
          by_cases a2 : 126 < s[i].toNat
          · exact .inr (.inl ⟨by omega, a2⟩)
          by_cases a3 : s[i] = 61
          · exact .inr (.inr (.inl ⟨by omega, by omega, a3⟩))
          by_cases a4 : s[i] = 63
          · exact .inr (.inr (.inr (.inl ⟨by omega, by omega, a3, a4⟩)))
          by_cases a5 : s[i] = 95
          · exact .inr (.inr (.inr (.inr ⟨by omega, by omega, a3, a4, a5⟩)))
          · have h33 : 33 ≤ s[i].toNat := by
              rcases Nat.lt_or_ge s[i].toNat 33 with h | h
              · exact absurd (UInt8.toNat_inj.1 (by have : (32 : UInt8).toNat = 32 := rfl; omega)) h32
              · exact h
            exact absurd (by simp [selfQ, a3, a4, a5]; omega) hself
        have w3n : (3 : Int) * (n : Int) = ((3 * n : Nat) : Int) := by omega
        obtain ⟨n3, hn3e⟩ : ∃ n3, n3 = 3 * n := ⟨_, rfl⟩
        rw [← hn3e] at w3n K
        have hn3b : n3 ≤ 12 := by omega
        have Hn3e := hidF hn3e
        clear hA hn hrr ht hrnB hrl hq3 h32 hself hd hne2 hn3e
        rcases alt with a1 | ⟨a1, a2⟩ | ⟨a1, a2, a3⟩ | ⟨a1, a2, a3, a4⟩ | ⟨a1, a2, a3, a4, a5⟩
        · have q1 : ¬ (32 : Int) ≤ (s[i].toNat : Int) := by omega
          clear a1
          go_wp2_with fail
          refine hdec.out.mono ?_
          rintro e wd ⟨rfl, hbd⟩
          have hBd := hidF (hBr.out.under hbd)
          clear hbd hdec
          by_cases hfit : cl + n3 ≤ 63
          · have y1 : ¬ (63 : Int) < (cl : Int) + (n3 : Int) := by omega
            have Kf := hidF (K.out.1 hfit)
            have hwq := hidF (writeQ_any b rnB out wd hBd.out.bld (by have := Hrs.out; have := HoL.out; omega))
            clear hfit
            go_wp2_with fail
            refine hwq.out.mono ?_
            rintro e w2 ⟨rfl, h2, S2⟩
            have hrel2 := hidF (Kf.out w2 (hBd.out.step h2 S2))
            clear h2 S2 hwq Kf
            go_wp2_with fail
            go_roundw
            case rel => exact hrel2.out
            case measure => simp [intOf]; omega
          · have y1 : (63 : Int) < (cl : Int) + (n3 : Int) := by omega
            have Kf := hidF (K.out.2 hfit)
            have hsp := hidF (splitWord_any b 113 utfS out wd hBd.out.bld (by have := HoL.out; omega) (by decide))
            clear hfit
            go_wp2_with fail
            refine hsp.out.mono ?_
            rintro e w2 ⟨rfl, h2, S2⟩
            have hB2 := hidF (hBd.out.step h2 S2)
            have hwq := hidF (writeQ_any b rnB _ w2 h2 (by have := Hrs.out; have := HoL.out; simp [openL]; have : utfS.size = 5 := rfl; omega))
            clear h2 S2 hsp
            go_wp2_with fail
            refine hwq.out.mono ?_
            rintro e w3 ⟨rfl, h3, S3⟩
            have hrel2 := hidF (Kf.out w3 (hB2.out.step h3 S3))
            clear h3 S3 hwq Kf
            go_wp2_with fail
            go_roundw
            case rel => exact hrel2.out
            case measure => simp [intOf]; omega
        · have q1 : (32 : Int) ≤ (s[i].toNat : Int) := by omega
          have q2 : ¬ (s[i].toNat : Int) ≤ 126 := by omega
          clear a1 a2
          go_wp2_with fail
          refine hdec.out.mono ?_
          rintro e wd ⟨rfl, hbd⟩
          have hBd := hidF (hBr.out.under hbd)
          clear hbd hdec
          by_cases hfit : cl + n3 ≤ 63
          · have y1 : ¬ (63 : Int) < (cl : Int) + (n3 : Int) := by omega
            have Kf := hidF (K.out.1 hfit)
            have hwq := hidF (writeQ_any b rnB out wd hBd.out.bld (by have := Hrs.out; have := HoL.out; omega))
            clear hfit
            go_wp2_with fail
            refine hwq.out.mono ?_
            rintro e w2 ⟨rfl, h2, S2⟩
            have hrel2 := hidF (Kf.out w2 (hBd.out.step h2 S2))
            clear h2 S2 hwq Kf
            go_wp2_with fail
            go_roundw
            case rel => exact hrel2.out
            case measure => simp [intOf]; omega
          · have y1 : (63 : Int) < (cl : Int) + (n3 : Int) := by omega
            have Kf := hidF (K.out.2 hfit)
            have hsp := hidF (splitWord_any b 113 utfS out wd hBd.out.bld (by have := HoL.out; omega) (by decide))
            clear hfit
            go_wp2_with fail
            refine hsp.out.mono ?_
            rintro e w2 ⟨rfl, h2, S2⟩
            have hB2 := hidF (hBd.out.step h2 S2)
            have hwq := hidF (writeQ_any b rnB _ w2 h2 (by have := Hrs.out; have := HoL.out; simp [openL]; have : utfS.size = 5 := rfl; omega))
            clear h2 S2 hsp
            go_wp2_with fail
            refine hwq.out.mono ?_
            rintro e w3 ⟨rfl, h3, S3⟩
            have hrel2 := hidF (Kf.out w3 (hB2.out.step h3 S3))
            clear h3 S3 hwq Kf
            go_wp2_with fail
            go_roundw
            case rel => exact hrel2.out
            case measure => simp [intOf]; omega
        · have q1 : (32 : Int) ≤ (s[i].toNat : Int) := by omega
          have q2 : (s[i].toNat : Int) ≤ 126 := by omega
          have q3 : ((s[i].toNat : Int) != 61) = false := by rw [a3]; rfl
          clear a1 a2 a3
          go_wp2_with fail
          refine hdec.out.mono ?_
          rintro e wd ⟨rfl, hbd⟩
          have hBd := hidF (hBr.out.under hbd)
          clear hbd hdec
          by_cases hfit : cl + n3 ≤ 63
          · have y1 : ¬ (63 : Int) < (cl : Int) + (n3 : Int) := by omega
            have Kf := hidF (K.out.1 hfit)
            have hwq := hidF (writeQ_any b rnB out wd hBd.out.bld (by have := Hrs.out; have := HoL.out; omega))
            clear hfit
            go_wp2_with fail
            refine hwq.out.mono ?_
            rintro e w2 ⟨rfl, h2, S2⟩
            have hrel2 := hidF (Kf.out w2 (hBd.out.step h2 S2))
            clear h2 S2 hwq Kf
            go_wp2_with fail
            go_roundw
            case rel => exact hrel2.out
            case measure => simp [intOf]; omega
          · have y1 : (63 : Int) < (cl : Int) + (n3 : Int) := by omega
            have Kf := hidF (K.out.2 hfit)
            have hsp := hidF (splitWord_any b 113 utfS out wd hBd.out.bld (by have := HoL.out; omega) (by decide))
            clear hfit
            go_wp2_with fail
            refine hsp.out.mono ?_
            rintro e w2 ⟨rfl, h2, S2⟩
            have hB2 := hidF (hBd.out.step h2 S2)
            have hwq := hidF (writeQ_any b rnB _ w2 h2 (by have := Hrs.out; have := HoL.out; simp [openL]; have : utfS.size = 5 := rfl; omega))
            clear h2 S2 hsp
            go_wp2_with fail
            refine hwq.out.mono ?_
            rintro e w3 ⟨rfl, h3, S3⟩
            have hrel2 := hidF (Kf.out w3 (hB2.out.step h3 S3))
            clear h3 S3 hwq Kf
            go_wp2_with fail
            go_roundw
            case rel => exact hrel2.out
            case measure => simp [intOf]; omega
        · have q1 : (32 : Int) ≤ (s[i].toNat : Int) := by omega
          have q2 : (s[i].toNat : Int) ≤ 126 := by omega
          have q3 : ((s[i].toNat : Int) != 61) = true := bne_iff_ne.2 (fun e => a3 (UInt8.toNat_inj.1 (by have : (61 : UInt8).toNat = 61 := rfl; omega)))
          have q4 : ((s[i].toNat : Int) != 63) = false := by rw [a4]; rfl
          clear a1 a2 a3 a4
          go_wp2_with fail
          refine hdec.out.mono ?_
          rintro e wd ⟨rfl, hbd⟩
          have hBd := hidF (hBr.out.under hbd)
          clear hbd hdec
          by_cases hfit : cl + n3 ≤ 63
          · have y1 : ¬ (63 : Int) < (cl : Int) + (n3 : Int) := by omega
            have Kf := hidF (K.out.1 hfit)
            have hwq := hidF (writeQ_any b rnB out wd hBd.out.bld (by have := Hrs.out; have := HoL.out; omega))
            clear hfit
            go_wp2_with fail
            refine hwq.out.mono ?_
            rintro e w2 ⟨rfl, h2, S2⟩
            have hrel2 := hidF (Kf.out w2 (hBd.out.step h2 S2))
            clear h2 S2 hwq Kf
            go_wp2_with fail
            go_roundw
            case rel => exact hrel2.out
            case measure => simp [intOf]; omega
          · have y1 : (63 : Int) < (cl : Int) + (n3 : Int) := by omega
            have Kf := hidF (K.out.2 hfit)
            have hsp := hidF (splitWord_any b 113 utfS out wd hBd.out.bld (by have := HoL.out; omega) (by decide))
            clear hfit
            go_wp2_with fail
            refine hsp.out.mono ?_
            rintro e w2 ⟨rfl, h2, S2⟩
            have hB2 := hidF (hBd.out.step h2 S2)
            have hwq := hidF (writeQ_any b rnB _ w2 h2 (by have := Hrs.out; have := HoL.out; simp [openL]; have : utfS.size = 5 := rfl; omega))
            clear h2 S2 hsp
            go_wp2_with fail
            refine hwq.out.mono ?_
            rintro e w3 ⟨rfl, h3, S3⟩
            have hrel2 := hidF (Kf.out w3 (hB2.out.step h3 S3))
            clear h3 S3 hwq Kf
            go_wp2_with fail
            go_roundw
            case rel => exact hrel2.out
            case measure => simp [intOf]; omega
        · have q1 : (32 : Int) ≤ (s[i].toNat : Int) := by omega
          have q2 : (s[i].toNat : Int) ≤ 126 := by omega
          have q3 : ((s[i].toNat : Int) != 61) = true := bne_iff_ne.2 (fun e => a3 (UInt8.toNat_inj.1 (by have : (61 : UInt8).toNat = 61 := rfl; omega)))
          have q4 : ((s[i].toNat : Int) != 63) = true := bne_iff_ne.2 (fun e => a4 (UInt8.toNat_inj.1 (by have : (63 : UInt8).toNat = 63 := rfl; omega)))
          have q5 : ((s[i].toNat : Int) != 95) = false := by rw [a5]; rfl
          clear a1 a2 a3 a4 a5
          go_wp2_with fail
          refine hdec.out.mono ?_
          rintro e wd ⟨rfl, hbd⟩
          have hBd := hidF (hBr.out.under hbd)
          clear hbd hdec
          by_cases hfit : cl + n3 ≤ 63
          · have y1 : ¬ (63 : Int) < (cl : Int) + (n3 : Int) := by omega
            have Kf := hidF (K.out.1 hfit)
            have hwq := hidF (writeQ_any b rnB out wd hBd.out.bld (by have := Hrs.out; have := HoL.out; omega))
            clear hfit
            go_wp2_with fail
            refine hwq.out.mono ?_
            rintro e w2 ⟨rfl, h2, S2⟩
            have hrel2 := hidF (Kf.out w2 (hBd.out.step h2 S2))
            clear h2 S2 hwq Kf
            go_wp2_with fail
            go_roundw
            case rel => exact hrel2.out
            case measure => simp [intOf]; omega
          · have y1 : (63 : Int) < (cl : Int) + (n3 : Int) := by omega
            have Kf := hidF (K.out.2 hfit)
            have hsp := hidF (splitWord_any b 113 utfS out wd hBd.out.bld (by have := HoL.out; omega) (by decide))
            clear hfit
            go_wp2_with fail
            refine hsp.out.mono ?_
            rintro e w2 ⟨rfl, h2, S2⟩
            have hB2 := hidF (hBd.out.step h2 S2)
            have hwq := hidF (writeQ_any b rnB _ w2 h2 (by have := Hrs.out; have := HoL.out; simp [openL]; have : utfS.size = 5 := rfl; omega))
            clear h2 S2 hsp
            go_wp2_with fail
            refine hwq.out.mono ?_
            rintro e w3 ⟨rfl, h3, S3⟩
            have hrel2 := hidF (Kf.out w3 (hB2.out.step h3 S3))
            clear h3 S3 hwq Kf
            go_wp2_with fail
            go_roundw
            case rel => exact hrel2.out
            case measure => simp [intOf]; omega
    · have hz : ¬ (i : Int) < (s.size : Int) := by omega
      have HF := hidF (show ∃ out, BldD w0 b out wr ∧ QDone 113 qL s.data.toList out by
        obtain ⟨out, C, cur, hE, hql, hbd⟩ := hst.out
        have : i = s.data.toList.length := by rw [← Hsl.out]; omega
        rw [this] at hE
        exact ⟨out, hbd, q_done hE Hne.out (by omega)⟩)
      clear hst
      go_wp2_with fail
      go_end0
      exact ⟨rfl, HF.out⟩
end Go.Proofs.YtbpoecfbcmdeeaaDoor
