/- Quoted strings, plainly: a text with backslashes ahead of some of its signs. No program in sight. -/
import Derived.Test.YtbpoecfbcmdeeaaDoorUtf
import Derived.Laws.Cover4
namespace Go.Proofs.YtbpoecfbcmdeeaaDoor
open Go.Lib

theorem encode_list (r : Nat) (h : r ≤ 1114111) (hs : ¬ (55296 ≤ r ∧ r ≤ 57343)) : (Utf8.encode (r : Int)).data.toList = encodeRune (r : Int) := by
  have hv : Utf8.valid (r : Int) = true := by
    simp only [Utf8.valid, Bool.or_eq_true, Bool.and_eq_true, decide_eq_true_eq]
    omega
  have toB : ∀ (z : Int) (n : Nat), z = (n : Int) → z.toNat.toUInt8 = UInt8.ofNat n := by
    intro z n e; subst e; rfl
  unfold Utf8.encode encodeRune
  simp only [hv, if_true, Int.toNat_natCast]
  by_cases h1 : r < 128
  · rw [if_pos h1, encodeRuneZ_one (by omega) (by omega)]
    simp only [List.map_cons, List.map_nil]
    rw [toB _ r rfl]
  · rw [if_neg h1]
    by_cases h2 : r < 2048
    · rw [if_pos h2, encodeRuneZ_two (by omega) (by omega)]
      simp only [List.map_cons, List.map_nil]
      rw [toB _ (0xC0 + r / 64) (by omega), toB _ (0x80 + r % 64) (by omega)]
    · rw [if_neg h2]
      by_cases h3 : r < 65536
      · rw [if_pos h3, encodeRuneZ_three (by omega)]
        simp only [List.map_cons, List.map_nil]
        rw [toB _ (0xE0 + r / 4096) (by omega), toB _ (0x80 + r / 64 % 64) (by omega), toB _ (0x80 + r % 64) (by omega)]
      · rw [if_neg h3, encodeRuneZ_four (by omega) (by omega)]
        simp only [List.map_cons, List.map_nil]
        rw [toB _ (0xF0 + r / 262144) (by omega), toB _ (0x80 + r / 4096 % 64) (by omega), toB _ (0x80 + r / 64 % 64) (by omega), toB _ (0x80 + r % 64) (by omega)]

/-- The rune at the head of valid bytes is a rune. -/
theorem decode_rune (l : List UInt8) : (decodeL l).1 ≤ 1114111 ∧ ¬ (55296 ≤ (decodeL l).1 ∧ (decodeL l).1 ≤ 57343) := by
  refine ⟨decodeL_rune l, ?_⟩
  rw [decodeL_N]
  rcases decodeN_shape l.length (l.getD 0 0).toNat (l.getD 1 0).toNat (l.getD 2 0).toNat (l.getD 3 0).toNat with ⟨c, e⟩ | ⟨c1, c2, c3, cv, e⟩ | ⟨c1, c2, c3, c4, cv, cs, e⟩ | ⟨c1, c2, c3, c4, c5, cv, cw, e⟩ | e
  all_goals (rw [e]; dsimp only; omega)

theorem encode_head (l : List UInt8) (hne : l ≠ []) (hv : ¬ ((decodeL l).1 = 65533 ∧ (decodeL l).2 = 1)) : (Utf8.encode ((decodeL l).1 : Int)).data.toList = l.take (decodeL l).2 := by
  rw [encode_list _ (decode_rune l).1 (decode_rune l).2, encode_decode l hne hv]

/-- What is decoded depends on the rune's own bytes alone. -/
theorem decode_prefix (l l' : List UInt8) (hv : ¬ ((decodeL l).1 = 65533 ∧ (decodeL l).2 = 1)) (hl : (decodeL l).2 ≤ l'.length) (h : l'.take (decodeL l).2 = l.take (decodeL l).2) : decodeL l' = decodeL l := by
  have get : ∀ j, j < (decodeL l).2 → l'.getD j 0 = l.getD j 0 := by
    intro j hj
    have := congrArg (·[j]?) h
    simp [hj] at this
    simp [List.getD, this]
  rw [decodeL_N l] at hv hl get ⊢
  rw [decodeL_N l']
  rcases decodeN_shape l.length (l.getD 0 0).toNat (l.getD 1 0).toNat (l.getD 2 0).toNat (l.getD 3 0).toNat with ⟨c, e⟩ | ⟨c1, c2, c3, cv, e⟩ | ⟨c1, c2, c3, c4, cv, cs, e⟩ | ⟨c1, c2, c3, c4, c5, cv, cw, e⟩ | e
  · rw [e] at get ⊢
    rw [get 0 (by omega)]
    simp only [decodeN, if_pos c]
  · rw [e] at get hl ⊢
    rw [get 0 (by omega), get 1 (by omega)]
    unfold decodeN
    rw [if_neg (by omega), if_pos ⟨c1, by dsimp only at hl; omega, c3⟩, if_pos cv]
  · rw [e] at get hl ⊢
    rw [get 0 (by omega), get 1 (by omega), get 2 (by omega)]
    unfold decodeN
    rw [if_neg (by omega), if_neg (by omega), if_pos ⟨c1, ⟨by dsimp only at hl; omega, c3⟩, by dsimp only at hl; omega, c4⟩, if_pos ⟨cv, by omega⟩]
  · rw [e] at get hl ⊢
    rw [get 0 (by omega), get 1 (by omega), get 2 (by omega), get 3 (by omega)]
    unfold decodeN
    rw [if_neg (by omega), if_neg (by omega), if_neg (by omega), if_pos ⟨c1, ⟨by dsimp only at hl; omega, c3⟩, ⟨by dsimp only at hl; omega, c4⟩, by dsimp only at hl; omega, c5⟩, if_pos ⟨cv, by omega⟩]
  · rw [e] at hv; exact absurd ⟨rfl, rfl⟩ hv

/-- The bytes of runes. -/
def encodes : List Int → List UInt8
  | [] => []
  | r :: rs => encodes rs |> fun t => (Utf8.encode r).data.toList ++ t

theorem encodes_append : ∀ (a b : List Int), encodes (a ++ b) = encodes a ++ encodes b
  | [], _ => rfl
  | r :: a, b => by
    show (Utf8.encode r).data.toList ++ encodes (a ++ b) = ((Utf8.encode r).data.toList ++ encodes a) ++ encodes b
    rw [encodes_append a b, List.append_assoc]

theorem foldl_list : ∀ (ns : List Int) (s : ByteArray), (ns.foldl (fun r n => r ++ Utf8.encode n) s).data.toList = s.data.toList ++ encodes ns
  | [], s => by simp [encodes]
  | n :: ns, s => by
    rw [List.foldl_cons, foldl_list ns, ByteArray.data_append, Array.toList_append, List.append_assoc]
    rfl

theorem runesBytes_list (ns : List Int) : runesBytes ns = mkB (encodes ns) := by
  have h : (runesBytes ns).data.toList = encodes ns := by
    unfold runesBytes
    rw [foldl_list]
    rfl
  rw [← h, list_mkB]

def qtextI (r : Int) : Bool := if r = 92 then false else if r = 34 then false else vcharI r
def wspI (r : Int) : Bool := r == 32 || r == 9

/-- No control character. -/
def noCtl (c : UInt8) : Prop := 32 ≤ c.toNat ∧ c.toNat ≠ 127

/-- The second text is the first with backslashes ahead of some signs of ASCII, and of each quote and each backslash. -/
inductive Esc : List UInt8 → List UInt8 → Prop
  | nil : Esc [] []
  | plain (c : UInt8) (t q : List UInt8) : c ≠ 34 → c ≠ 92 → noCtl c → Esc t q → Esc (c :: t) (c :: q)
  | esc (c : UInt8) (t q : List UInt8) : c.toNat < 128 → noCtl c → Esc t q → Esc (c :: t) (92 :: c :: q)

/-- High bytes stand in it as they are. -/
theorem Esc.high : ∀ (k : Nat) (t q : List UInt8), Esc t q → k ≤ t.length → (∀ b ∈ t.take k, 128 ≤ b.toNat) → q.take k = t.take k ∧ Esc (t.drop k) (q.drop k) ∧ k ≤ q.length
  | 0, t, q, h, _, _ => ⟨by simp, by simpa using h, Nat.zero_le _⟩
  | k + 1, _, _, .nil, hk, _ => by simp at hk
  | k + 1, _, _, .plain c t q h1 h2 h3 h, hk, ha => by
    have ih := Esc.high k t q h (by simpa using hk) (fun b hb => ha b (by simp [hb]))
    exact ⟨by rw [List.take_succ_cons, List.take_succ_cons, ih.1], by rw [List.drop_succ_cons, List.drop_succ_cons]; exact ih.2.1, by have := ih.2.2; simp; omega⟩
  | k + 1, _, _, .esc c t q h1 h2 h, hk, ha => by
    have := ha c (by simp)
    omega

theorem qtext_ascii (c : UInt8) (h1 : c ≠ 34) (h2 : c ≠ 92) (h3 : noCtl c) (h : c.toNat < 128) : (qtextI (c.toNat : Int) || wspI (c.toNat : Int)) = true := by
  have e1 : c.toNat ≠ 34 := fun e => h1 (UInt8.toNat_inj.1 e)
  have e2 : c.toNat ≠ 92 := fun e => h2 (UInt8.toNat_inj.1 e)
  unfold noCtl at h3
  by_cases h32 : c.toNat = 32
  · rw [h32]; rfl
  · have : qtextI (c.toNat : Int) = true := by
      unfold qtextI
      rw [if_neg (by omega), if_neg (by omega)]
      simp [vcharI]; omega
    rw [this]; rfl

theorem vchar_ascii (c : UInt8) (h3 : noCtl c) (h : c.toNat < 128) : (vcharI (c.toNat : Int) || wspI (c.toNat : Int)) = true := by
  unfold noCtl at h3
  by_cases h32 : c.toNat = 32
  · rw [h32]; rfl
  · have : vcharI (c.toNat : Int) = true := by
      simp [vcharI]; omega
    rw [this]; rfl

/-- One step of the quoted string's loop. -/
theorem quoted_step (t q z : List UInt8) (h : Esc t q) (hv : validD t = true) :
    (t = [] ∧ q = []) ∨
    (∃ c t' q', t = c :: t' ∧ q = 92 :: c :: q' ∧ c.toNat < 128 ∧ noCtl c ∧ Esc t' q' ∧ validD t' = true) ∨
    (∃ r sz : Nat, decodeL (q ++ 34 :: z) = (r, sz) ∧ 1 ≤ sz ∧ sz ≤ q.length ∧ ¬ (sz = 1 ∧ r = 65533) ∧ (qtextI (r : Int) || wspI (r : Int)) = true ∧
      (Utf8.encode (r : Int)).data.toList = t.take sz ∧ Esc (t.drop sz) (q.drop sz) ∧ validD (t.drop sz) = true) := by
  cases h with
  | nil => exact .inl ⟨rfl, rfl⟩
  | esc c t q h1 h2 h =>
    rw [validD_cons c t h1] at hv
    exact .inr (.inl ⟨c, t, q, rfl, rfl, h1, h2, h, hv⟩)
  | plain c t q h1 h2 h3 h =>
    right; right
    have hs := utf_step (c :: t) (by simp) hv
    have henc := encode_head (c :: t) (by simp) hs.1
    by_cases hc : c.toNat < 128
    · rw [decode_ascii_l c t hc] at hs henc
      dsimp only at hs henc
      exact ⟨c.toNat, 1, by rw [List.cons_append]; exact decode_ascii_l c _ hc, Nat.le_refl _, by simp, fun e => absurd (e.2 ▸ hc : (65533 : Nat) < 128) (by decide), qtext_ascii c h1 h2 h3 hc, henc, h, hs.2⟩
    · have hh := utf_high c t (by omega) hv
      have hE := Esc.high _ _ _ (Esc.plain c t q h1 h2 h3 h) hh.2.1 hh.1
      refine ⟨(decodeL (c :: t)).1, (decodeL (c :: t)).2, ?_, hh.2.2.1, hE.2.2, fun e => hs.1 ⟨e.2, e.1⟩, ?_, henc, hE.2.1, hs.2⟩
      · refine decode_prefix (c :: t) _ hs.1 (by rw [List.length_append]; have := hE.2.2; omega) ?_
        rw [List.take_append_of_le_length hE.2.2, hE.1]
      · have h128 := hh.2.2.2
        have : qtextI ((decodeL (c :: t)).1 : Int) = true := by
          unfold qtextI
          rw [if_neg (by omega), if_neg (by omega)]
          simp [vcharI]; omega
        rw [this]; rfl
end Go.Proofs.YtbpoecfbcmdeeaaDoor
