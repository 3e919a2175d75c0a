/- gomime's openWord, closeWord, splitWord, writeQString, isUTF8: the walks. -/
import Derived.Test.YtbpoecfbcmdeeaaDoorEncQ
import Derived.Test.YtbpoecfbcmdeeaaDoorConv
import Derived.Outline
namespace Go.Proofs.YtbpoecfbcmdeeaaDoor
open Go.RowKit

/-- l has been written to the builder at b, which held out. -/
def WB (b : Nat) (out l : List UInt8) (w : World) (e : Ending) (w' : World) : Prop := e = .returned (.tuple #[]) ∧ IsB b (out ++ l) w' ∧ BStep b w w'

def openL (e : UInt8) (cs : List UInt8) : List UInt8 := [61, 63] ++ (cs ++ [63, e, 63])

set_option maxHeartbeats 1000000 in
theorem closeWord_any (b : Nat) (out : List UInt8) (w : World) (h : IsB b out w) (hl : out.length ≤ 1000000) :
    Calls Tryd.prog 40 #[.pointer (some ⟨b, 0, none⟩)] w (WB b out [63, 61] w) := by
  have h1 := hidF (WriteString_R b out ⟨#[63, 61]⟩ w h (by show out.length + 2 ≤ _; omega))
  clear h
  go_enter Tryd.func40, Tryd.ntmps40
  go_wp2_with fail
  refine h1.out.mono ?_
  rintro e w1 ⟨rfl, hB, hS⟩
  have HF := hidF (show IsB b (out ++ [63, 61]) w1 ∧ BStep b w w1 from ⟨hB.is, hS⟩)
  clear hB hS h1
  go_wp2_with fail
  go_end0
  exact ⟨rfl, HF.out⟩

set_option maxHeartbeats 2000000 in
theorem openWord_any (b : Nat) (e0 : UInt8) (cs : ByteArray) (out : List UInt8) (w : World) (h : IsB b out w) (hl : out.length ≤ 1000000) (hc : cs.size ≤ 1000) :
    Calls Tryd.prog 37 #[.int .u8 (e0.toNat : Int), .pointer (some ⟨b, 0, none⟩), .string cs] w (WB b out (openL e0 cs.data.toList) w) := by
  have hcl := size_of_list cs
  have h1 := hidF (WriteString_R b out ⟨#[61, 63]⟩ w h (by show out.length + 2 ≤ _; omega))
  have h2 := hidF (fun w (h : IsB b (out ++ [61, 63]) w) => WriteString_R b _ cs w h (by simp; omega))
  have h3 := hidF (fun w (h : IsB b (out ++ [61, 63] ++ cs.data.toList) w) => WriteByte_R b _ 63 63 rfl w h (by simp; omega))
  have h4 := hidF (fun w (h : IsB b (out ++ [61, 63] ++ cs.data.toList ++ [63]) w) => WriteByte_R b _ e0 _ rfl w h (by simp; omega))
  have h5 := hidF (fun w (h : IsB b (out ++ [61, 63] ++ cs.data.toList ++ [63] ++ [e0]) w) => WriteByte_R b _ 63 63 rfl w h (by simp; omega))
  clear h hcl
  go_enter Tryd.func37, Tryd.ntmps37
  go_wp2_with fail
  refine h1.out.mono ?_
  rintro e w1 ⟨rfl, hB, hS⟩
  have g2 := hidF (h2.out w1 hB.is)
  have S1 := hidF hS
  clear hB hS h1 h2
  go_wp2_with fail
  refine g2.out.mono ?_
  rintro e w2 ⟨rfl, hB, hS⟩
  have g3 := hidF (h3.out w2 hB.is)
  have S2 := hidF (S1.out.trans hS)
  clear hB hS h3 g2 S1
  go_wp2_with fail
  refine g3.out.mono ?_
  rintro e w3 ⟨rfl, hB, hS⟩
  have g4 := hidF (h4.out w3 hB.is)
  have S3 := hidF (S2.out.trans hS)
  clear hB hS h4 g3 S2
  go_wp2_with fail
  refine g4.out.mono ?_
  rintro e w4 ⟨rfl, hB, hS⟩
  have g5 := hidF (h5.out w4 hB.is)
  have S4 := hidF (S3.out.trans hS)
  clear hB hS h5 g4 S3
  go_wp2_with fail
  refine g5.out.mono ?_
  rintro e w5 ⟨rfl, hB, hS⟩
  have HF := hidF (show IsB b (out ++ openL e0 cs.data.toList) w5 ∧ BStep b w w5 from ⟨by
    have := hB.is
    unfold openL
    simpa using this, S4.out.trans hS⟩)
  clear hB hS g5 S4
  go_wp2_with fail
  go_end0
  exact ⟨rfl, HF.out⟩

set_option maxHeartbeats 2000000 in
theorem splitWord_any (b : Nat) (e0 : UInt8) (cs : ByteArray) (out : List UInt8) (w : World) (h : IsB b out w) (hl : out.length ≤ 900000) (hc : cs.size ≤ 1000) :
    Calls Tryd.prog 60 #[.int .u8 (e0.toNat : Int), .pointer (some ⟨b, 0, none⟩), .string cs] w (WB b out ([63, 61, 32] ++ openL e0 cs.data.toList) w) := by
  have h1 := hidF (closeWord_any b out w h (by omega))
  have h2 := hidF (fun w (h : IsB b (out ++ [63, 61]) w) => WriteByte_R b _ 32 32 rfl w h (by simp; omega))
  have h3 := hidF (fun w (h : IsB b (out ++ [63, 61] ++ [32]) w) => openWord_any b e0 cs _ w h (by simp; omega) hc)
  clear h
  go_enter Tryd.func60, Tryd.ntmps60
  go_wp2_with fail
  refine h1.out.mono ?_
  rintro e w1 ⟨rfl, hB, hS⟩
  have g2 := hidF (h2.out w1 hB)
  have S1 := hidF hS
  clear hB hS h1 h2
  go_wp2_with fail
  refine g2.out.mono ?_
  rintro e w2 ⟨rfl, hB, hS⟩
  have g3 := hidF (h3.out w2 hB.is)
  have S2 := hidF (S1.out.trans hS)
  clear hB hS h3 g2 S1
  go_wp2_with fail
  refine g3.out.mono ?_
  rintro e w3 ⟨rfl, hB, hS⟩
  have HF := hidF (show IsB b (out ++ ([63, 61, 32] ++ openL e0 cs.data.toList)) w3 ∧ BStep b w w3 from ⟨by simpa using hB, S2.out.trans hS⟩)
  clear hB hS g3 S2
  go_wp2_with fail
  go_end0
  exact ⟨rfl, HF.out⟩

theorem u8_eqb (a : UInt8) (n : Nat) (hn : n < 256) : ((a.toNat : Int) == (n : Int)) = (a == UInt8.ofNat n) := by
  rw [Bool.eq_iff_iff, beq_iff_eq, beq_iff_eq]
  constructor
  · intro h; apply UInt8.toNat_inj.1; rw [UInt8.toNat_ofNat']; omega
  · intro h; rw [h, UInt8.toNat_ofNat']; omega

def hexS : ByteArray := ⟨#[48, 49, 50, 51, 52, 53, 54, 55, 56, 57, 65, 66, 67, 68, 69, 70]⟩
theorem hexS_at (n : Nat) (h : n < hexS.size) : hexS[n] = hexU n := by
  have : ∀ n : Fin 16, hexS[n.val]'(by have := n.isLt; exact this) = hexU n.val := by decide
  exact this ⟨n, h⟩

set_option maxHeartbeats 4000000 in
set_option maxRecDepth 100000 in
theorem writeQ_any (b : Nat) (s : ByteArray) (out : List UInt8) (w : World) (h : IsB b out w) (hl : out.length + 3 * s.size ≤ 1000000) :
    Calls Tryd.prog 61 #[.pointer (some ⟨b, 0, none⟩), .string s] w (WB b out (qL s.data.toList) w) := by
  have Hsl := hidF (size_of_list s)
  have h0 := hidF (show IsB b (out ++ qL (s.data.toList.take 0)) w by simpa [qL] using h)
  clear h
  go_enter Tryd.func61, Tryd.ntmps61
  go_wp2_with fail
  go_loopw [4] (fun iv wr => ∃ k : Nat, k ≤ s.size ∧ iv = .int .i64 k ∧ Hid (IsB b (out ++ qL (s.data.toList.take k)) wr ∧ BStep b w wr ∧ (qL (s.data.toList.take k)).length ≤ 3 * k)) (fun iv _ => s.size - (intOf iv).toNat)
  case atStart => exact ⟨0, Nat.zero_le _, rfl, hidF ⟨h0.out, BStep.refl _ _, by simp [qL]⟩⟩
  case round =>
    obtain ⟨k, hk, rfl, hst⟩ := hrel
    by_cases hlt : k < s.size
    · have hz : (k : Int) < (s.size : Int) := by omega
      have hgk := get_of s k hlt
      have htk : qL (s.data.toList.take (k + 1)) = qL (s.data.toList.take k) ++ qC s[k] := by
        rw [List.take_add_one, hgk, qL_app]
        simp [qL]
      have hqc : (qC s[k]).length ≤ 3 := by unfold qC; split <;> (try split) <;> simp
      have Hn := hidF (fun w2 (hB : IsB b (out ++ qL (s.data.toList.take k) ++ qC s[k]) w2) (hS : BStep b wr w2) => (show IsB b (out ++ qL (s.data.toList.take (k + 1))) w2 ∧ BStep b w w2 ∧ (qL (s.data.toList.take (k + 1))).length ≤ 3 * (k + 1) from
        ⟨by rw [htk, ← List.append_assoc]; exact hB, hst.out.2.1.trans hS, by rw [htk, List.length_append]; have := hst.out.2.2; omega⟩))
      have Hlen := hidF (show (out ++ qL (s.data.toList.take k)).length + 3 ≤ 1000000 by rw [List.length_append]; have := hst.out.2.2; omega)
      have hB0 := hidF hst.out.1
      clear htk hqc hgk hst
      have hc8 := s[k].toNat_lt
      by_cases h32 : s[k] = 32
      · have e1 : qC s[k] = [95] := by unfold qC; rw [if_pos h32]
        have q0 : ((s[k].toNat : Int) == 32) = true := by rw [h32]; rfl
        rw [e1] at Hn
        have g1 := hidF (WriteByte_R b _ 95 95 rfl wr hB0.out (by have := Hlen.out; omega))
        clear e1 h32 hc8
        go_wp2_with fail
        refine g1.out.mono ?_
        rintro e w2 ⟨rfl, hB, hS⟩
        have HF := hidF (Hn.out w2 hB.is hS)
        clear hB hS g1 Hn
        go_wp2_with fail
        go_roundw
        case rel => exact ⟨k + 1, hlt, by go_num, HF⟩
        case measure => simp [intOf]; omega
      · have q0 : ((s[k].toNat : Int) == 32) = false := beq_eq_false_iff_ne.2 (fun e => h32 (UInt8.toNat_inj.1 (by have : (32 : UInt8).toNat = 32 := rfl; omega)))
        by_cases hs : selfQ s[k] = true
        · have e1 : qC s[k] = [s[k]] := by unfold qC; rw [if_neg h32, if_pos hs]
          have h5 : ((33 ≤ s[k].toNat ∧ s[k].toNat ≤ 126) ∧ s[k] ≠ 61 ∧ s[k] ≠ 63) ∧ s[k] ≠ 95 := by simpa [selfQ, and_assoc] using hs
          have q1 : (33 : Int) ≤ (s[k].toNat : Int) := by omega
          have q2 : (s[k].toNat : Int) ≤ 126 := by omega
          have q3 : ((s[k].toNat : Int) != 61) = true := bne_iff_ne.2 (fun e => h5.1.2.1 (UInt8.toNat_inj.1 (by have : (61 : UInt8).toNat = 61 := rfl; omega)))
          have q4 : ((s[k].toNat : Int) != 63) = true := bne_iff_ne.2 (fun e => h5.1.2.2 (UInt8.toNat_inj.1 (by have : (63 : UInt8).toNat = 63 := rfl; omega)))
          have q5 : ((s[k].toNat : Int) != 95) = true := bne_iff_ne.2 (fun e => h5.2 (UInt8.toNat_inj.1 (by have : (95 : UInt8).toNat = 95 := rfl; omega)))
          rw [e1] at Hn
          have g1 := hidF (WriteByte_R b _ s[k] (s[k].toNat : Int) rfl wr hB0.out (by have := Hlen.out; omega))
          clear e1 h32 hc8 hs h5
          go_wp2_with fail
          refine g1.out.mono ?_
          rintro e w2 ⟨rfl, hB, hS⟩
          have HF := hidF (Hn.out w2 hB.is hS)
          clear hB hS g1 Hn
          go_wp2_with fail
          go_roundw
          case rel => exact ⟨k + 1, hlt, by go_num, HF⟩
          case measure => simp [intOf]; omega
        · have e1 : qC s[k] = [61, hexU (s[k].toNat / 16), hexU (s[k].toNat % 16)] := by unfold qC; rw [if_neg h32, if_neg hs]
          rw [e1] at Hn
          have hl0 := Hlen.out
          have g1 := hidF (WriteByte_R b _ 61 61 rfl wr hB0.out (by omega))
          have g2 := hidF (fun w2 (hB : IsB b (out ++ qL (s.data.toList.take k) ++ [61]) w2) (X : Int) (hX : X = ((hexU (s[k].toNat / 16)).toNat : Int)) => WriteByte_R b _ (hexU (s[k].toNat / 16)) X hX w2 hB (by rw [List.length_append, show ([61] : List UInt8).length = 1 from rfl]; omega))
          have g3 := hidF (fun w2 (hB : IsB b (out ++ qL (s.data.toList.take k) ++ [61] ++ [hexU (s[k].toNat / 16)]) w2) (X : Int) (hX : X = ((hexU (s[k].toNat % 16)).toNat : Int)) => WriteByte_R b _ (hexU (s[k].toNat % 16)) X hX w2 hB (by rw [List.length_append, List.length_append, show ([61] : List UInt8).length = 1 from rfl, show [hexU (s[k].toNat / 16)].length = 1 from rfl]; omega))
          have Hx1 := hidF (hexS_at (s[k].toNat / 16) (by show s[k].toNat / 16 < 16; omega))
          have Hx2 := hidF (hexS_at (s[k].toNat % 16) (by show s[k].toNat % 16 < 16; omega))
          have hc256 : (s[k].toNat : Int) < 256 := by omega
          have alt : s[k].toNat < 33 ∨ (33 ≤ s[k].toNat ∧ 126 < s[k].toNat) ∨ (33 ≤ s[k].toNat ∧ s[k].toNat ≤ 126 ∧ s[k] = 61) ∨ (33 ≤ s[k].toNat ∧ s[k].toNat ≤ 126 ∧ s[k] ≠ 61 ∧ s[k] = 63) ∨ (33 ≤ s[k].toNat ∧ s[k].toNat ≤ 126 ∧ s[k] ≠ 61 ∧ s[k] ≠ 63 ∧ s[k] = 95) := by
            by_cases a1 : s[k].toNat < 33
            · exact .inl a1
            by_cases a2 : 126 < s[k].toNat
            · exact .inr (.inl ⟨by omega, a2⟩)
            by_cases a3 : s[k] = 61
            · exact .inr (.inr (.inl ⟨by omega, by omega, a3⟩))
            by_cases a4 : s[k] = 63
            · exact .inr (.inr (.inr (.inl ⟨by omega, by omega, a3, a4⟩)))
            by_cases a5 : s[k] = 95
            · exact .inr (.inr (.inr (.inr ⟨by omega, by omega, a3, a4, a5⟩)))
            · exact absurd (by simp [selfQ, a3, a4, a5]; omega) hs
          clear e1 h32 hs hl0
          rcases alt with a1 | ⟨a1, a2⟩ | ⟨a1, a2, a3⟩ | ⟨a1, a2, a3, a4⟩ | ⟨a1, a2, a3, a4, a5⟩
          · have q1 : ¬ (33 : Int) ≤ (s[k].toNat : Int) := by omega
            clear a1
            go_wp2_with fail
            refine g1.out.mono ?_
            rintro e w2 ⟨rfl, hB, hS⟩
            have h2 := hidF (g2.out w2 hB.is)
            have S2 := hidF hS
            clear hB hS g1 g2
            go_wp2_with fail
            refine (h2.out _ (by rw [← Hx1.out]; rfl)).mono ?_
            rintro e w3 ⟨rfl, hB, hS⟩
            have h3 := hidF (g3.out w3 hB.is)
            have S3 := hidF (S2.out.trans hS)
            clear hB hS h2 g3 S2
            go_wp2_with fail
            refine (h3.out _ (by rw [← Hx2.out]; rfl)).mono ?_
            rintro e w4 ⟨rfl, hB, hS⟩
            have HF := hidF (Hn.out w4 (by have := hB.is; simpa using this) (S3.out.trans hS))
            clear hB hS h3 S3 Hn
            go_wp2_with fail
            go_roundw
            case rel => exact ⟨k + 1, hlt, by go_num, HF⟩
            case measure => simp [intOf]; omega
          · have q1 : (33 : Int) ≤ (s[k].toNat : Int) := by omega
            have q2 : ¬ (s[k].toNat : Int) ≤ 126 := by omega
            clear a1 a2
            go_wp2_with fail
            refine g1.out.mono ?_
            rintro e w2 ⟨rfl, hB, hS⟩
            have h2 := hidF (g2.out w2 hB.is)
            have S2 := hidF hS
            clear hB hS g1 g2
            go_wp2_with fail
            refine (h2.out _ (by rw [← Hx1.out]; rfl)).mono ?_
            rintro e w3 ⟨rfl, hB, hS⟩
            have h3 := hidF (g3.out w3 hB.is)
            have S3 := hidF (S2.out.trans hS)
            clear hB hS h2 g3 S2
            go_wp2_with fail
            refine (h3.out _ (by rw [← Hx2.out]; rfl)).mono ?_
            rintro e w4 ⟨rfl, hB, hS⟩
            have HF := hidF (Hn.out w4 (by have := hB.is; simpa using this) (S3.out.trans hS))
            clear hB hS h3 S3 Hn
            go_wp2_with fail
            go_roundw
            case rel => exact ⟨k + 1, hlt, by go_num, HF⟩
            case measure => simp [intOf]; omega
          · have q1 : (33 : Int) ≤ (s[k].toNat : Int) := by omega
            have q2 : (s[k].toNat : Int) ≤ 126 := by omega
            have q3 : ((s[k].toNat : Int) != 61) = false := by rw [a3]; rfl
            clear a1 a2 a3
            go_wp2_with fail
            refine g1.out.mono ?_
            rintro e w2 ⟨rfl, hB, hS⟩
            have h2 := hidF (g2.out w2 hB.is)
            have S2 := hidF hS
            clear hB hS g1 g2
            go_wp2_with fail
            refine (h2.out _ (by rw [← Hx1.out]; rfl)).mono ?_
            rintro e w3 ⟨rfl, hB, hS⟩
            have h3 := hidF (g3.out w3 hB.is)
            have S3 := hidF (S2.out.trans hS)
            clear hB hS h2 g3 S2
            go_wp2_with fail
            refine (h3.out _ (by rw [← Hx2.out]; rfl)).mono ?_
            rintro e w4 ⟨rfl, hB, hS⟩
            have HF := hidF (Hn.out w4 (by have := hB.is; simpa using this) (S3.out.trans hS))
            clear hB hS h3 S3 Hn
            go_wp2_with fail
            go_roundw
            case rel => exact ⟨k + 1, hlt, by go_num, HF⟩
            case measure => simp [intOf]; omega
          · have q1 : (33 : Int) ≤ (s[k].toNat : Int) := by omega
            have q2 : (s[k].toNat : Int) ≤ 126 := by omega
            have q3 : ((s[k].toNat : Int) != 61) = true := bne_iff_ne.2 (fun e => a3 (UInt8.toNat_inj.1 (by have : (61 : UInt8).toNat = 61 := rfl; omega)))
            have q4 : ((s[k].toNat : Int) != 63) = false := by rw [a4]; rfl
            clear a1 a2 a3 a4
            go_wp2_with fail
            refine g1.out.mono ?_
            rintro e w2 ⟨rfl, hB, hS⟩
            have h2 := hidF (g2.out w2 hB.is)
            have S2 := hidF hS
            clear hB hS g1 g2
            go_wp2_with fail
            refine (h2.out _ (by rw [← Hx1.out]; rfl)).mono ?_
            rintro e w3 ⟨rfl, hB, hS⟩
            have h3 := hidF (g3.out w3 hB.is)
            have S3 := hidF (S2.out.trans hS)
            clear hB hS h2 g3 S2
            go_wp2_with fail
            refine (h3.out _ (by rw [← Hx2.out]; rfl)).mono ?_
            rintro e w4 ⟨rfl, hB, hS⟩
            have HF := hidF (Hn.out w4 (by have := hB.is; simpa using this) (S3.out.trans hS))
            clear hB hS h3 S3 Hn
            go_wp2_with fail
            go_roundw
            case rel => exact ⟨k + 1, hlt, by go_num, HF⟩
            case measure => simp [intOf]; omega
          · have q1 : (33 : Int) ≤ (s[k].toNat : Int) := by omega
            have q2 : (s[k].toNat : Int) ≤ 126 := by omega
            have q3 : ((s[k].toNat : Int) != 61) = true := bne_iff_ne.2 (fun e => a3 (UInt8.toNat_inj.1 (by have : (61 : UInt8).toNat = 61 := rfl; omega)))
            have q4 : ((s[k].toNat : Int) != 63) = true := bne_iff_ne.2 (fun e => a4 (UInt8.toNat_inj.1 (by have : (63 : UInt8).toNat = 63 := rfl; omega)))
            have q5 : ((s[k].toNat : Int) != 95) = false := by rw [a5]; rfl
            clear a1 a2 a3 a4 a5
            go_wp2_with fail
            refine g1.out.mono ?_
            rintro e w2 ⟨rfl, hB, hS⟩
            have h2 := hidF (g2.out w2 hB.is)
            have S2 := hidF hS
            clear hB hS g1 g2
            go_wp2_with fail
            refine (h2.out _ (by rw [← Hx1.out]; rfl)).mono ?_
            rintro e w3 ⟨rfl, hB, hS⟩
            have h3 := hidF (g3.out w3 hB.is)
            have S3 := hidF (S2.out.trans hS)
            clear hB hS h2 g3 S2
            go_wp2_with fail
            refine (h3.out _ (by rw [← Hx2.out]; rfl)).mono ?_
            rintro e w4 ⟨rfl, hB, hS⟩
            have HF := hidF (Hn.out w4 (by have := hB.is; simpa using this) (S3.out.trans hS))
            clear hB hS h3 S3 Hn
            go_wp2_with fail
            go_roundw
            case rel => exact ⟨k + 1, hlt, by go_num, HF⟩
            case measure => simp [intOf]; omega
    · have hz : ¬ (k : Int) < (s.size : Int) := by omega
      have HF := hidF (show IsB b (out ++ qL s.data.toList) wr ∧ BStep b w wr by
        have := hst.out
        rw [List.take_of_length_le (by rw [← Hsl.out]; omega)] at this
        exact ⟨this.1, this.2.1⟩)
      clear hst
      go_wp2_with fail
      go_end0
      exact ⟨rfl, HF.out⟩
end Go.Proofs.YtbpoecfbcmdeeaaDoor
