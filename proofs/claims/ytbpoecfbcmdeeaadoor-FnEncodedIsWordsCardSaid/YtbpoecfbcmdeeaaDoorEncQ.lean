/- The encodings Q and B of bytes, plainly, and that they mean these bytes. No program in sight. -/
import Derived.Test.YtbpoecfbcmdeeaaDoorHeadL
import Derived.Test.YtbpoecfbcmdeeaaDoorQText
import Derived.Test.YtbpoecfbcmdeeaaDoorUnbText
namespace Go.Proofs.YtbpoecfbcmdeeaaDoor
open Go.Lib

theorem validD_app : ∀ (n : Nat) (a b : List UInt8), a.length ≤ n → validD a = true → validD b = true → validD (a ++ b) = true
  | _, [], b, _, _, hb => hb
  | 0, x :: a, _, hn, _, _ => absurd hn (by simp)
  | n + 1, x :: a, b, hn, ha, hb => by
    have hne : x :: a ≠ [] := by simp
    obtain ⟨hv, hd⟩ := utf_step (x :: a) hne ha
    have hs := And.intro (decodeL_width (x :: a)) (decodeL_le (x :: a) hne)
    have hp := decode_prefix (x :: a) ((x :: a) ++ b) hv (by rw [List.length_append]; omega) (List.take_append_of_le_length hs.2)
    rw [validD_step _ (by simp), hp, if_neg hv, List.drop_append_of_le_length hs.2]
    refine validD_app n _ b ?_ hd hb
    rw [List.length_drop]; simp at hn ⊢; omega
theorem validD_rune (l : List UInt8) (hne : l ≠ []) (hv : validD l = true) : validD (l.take (decodeL l).2) = true := by
  obtain ⟨h1, _⟩ := utf_step l hne hv
  have hs := And.intro (decodeL_width l) (decodeL_le l hne)
  have hlen : (l.take (decodeL l).2).length = (decodeL l).2 := by rw [List.length_take]; omega
  have hp := decode_prefix l (l.take (decodeL l).2) h1 (by rw [hlen]; exact Nat.le_refl _) (by rw [List.take_take, Nat.min_self])
  have hne2 : l.take (decodeL l).2 ≠ [] := by intro e; rw [e] at hlen; simp at hlen; omega
  rw [validD_step _ hne2, hp, if_neg h1, List.drop_eq_nil_of_le (by rw [hlen]; exact Nat.le_refl _)]
  rfl

/-- An encoded word's signs mean the text (the other way about). -/
theorem coded_decoded {l cs tx b t : List UInt8} {e : UInt8} (h : Coded l cs e tx b t) : decodedL l = some t := by
  have he : e ≠ 63 := by rcases h.noe with rfl | rfl | rfl | rfl <;> decide
  have hlen : l.length = cs.length + tx.length + 7 := by rw [h.text]; simp; omega
  have htx : 0 < tx.length := List.length_pos_iff.2 h.ne
  have h75 := h.len
  have hd : l.drop (l.length - 2) = [63, 61] := by
    have h1 : l = (61 :: 63 :: (cs ++ 63 :: e :: 63 :: tx)) ++ [63, 61] := by rw [h.text]; simp
    have h2 : l.length - 2 = (61 :: 63 :: (cs ++ 63 :: e :: 63 :: tx)).length := by rw [hlen]; simp; omega
    rw [h2]
    conv => lhs; rw [h1]
    exact List.drop_left
  have hi : (l.drop 2).take (l.length - 4) = cs ++ 63 :: ([e] ++ 63 :: tx) := by
    have h1 : l.drop 2 = (cs ++ 63 :: ([e] ++ 63 :: tx)) ++ [63, 61] := by rw [h.text]; simp
    rw [h1, List.take_left' (by rw [hlen]; simp; omega)]
  unfold decodedL
  rw [if_neg, hi, splitQ_app _ _ h.nocs, splitQ_app _ _ (by simpa using he), splitQ_none _ h.notx]
  · show (if tx = [] then none else (wayL [e] tx).bind (convL cs)) = some t
    rw [if_neg h.ne, h.way]; exact h.conv
  · rintro (h1 | h1 | h1 | h1)
    · omega
    · omega
    · exact h1 (by rw [h.text]; rfl)
    · exact h1 hd

/-- A word, its signs being none of a blank. -/
structure WordOf (e : UInt8) (enc : List UInt8 → List UInt8) (ch : List UInt8) : Prop where
  coded : Coded (61 :: 63 :: (utfN ++ 63 :: e :: 63 :: (enc ch ++ [63, 61]))) utfN e (enc ch) ch ch
  signs : ∀ c ∈ enc ch, 33 ≤ c.toNat ∧ c.toNat ≤ 126
def wordL (e : UInt8) (tx : List UInt8) : List UInt8 := 61 :: 63 :: (utfN ++ 63 :: e :: 63 :: (tx ++ [63, 61]))
theorem wordL_ok {e : UInt8} {enc : List UInt8 → List UInt8} {ch : List UInt8} (h : WordOf e enc ch) : ∀ c ∈ wordL e (enc ch), 33 ≤ c.toNat ∧ c.toNat ≤ 126 := by
  intro c hc
  have he : 33 ≤ e.toNat ∧ e.toNat ≤ 126 := by rcases h.coded.noe with rfl | rfl | rfl | rfl <;> decide
  unfold wordL at hc
  rcases List.mem_cons.1 hc with rfl | hc
  · decide
  rcases List.mem_cons.1 hc with rfl | hc
  · decide
  rcases List.mem_append.1 hc with hc | hc
  · have : ∀ x ∈ utfN, 33 ≤ x.toNat ∧ x.toNat ≤ 126 := by decide
    exact this c hc
  rcases List.mem_cons.1 hc with rfl | hc
  · decide
  rcases List.mem_cons.1 hc with rfl | hc
  · exact he
  rcases List.mem_cons.1 hc with rfl | hc
  · decide
  rcases List.mem_append.1 hc with hc | hc
  · exact h.signs c hc
  · have : ∀ x ∈ ([63, 61] : List UInt8), 33 ≤ x.toNat ∧ x.toNat ≤ 126 := by decide
    exact this c hc

/-- Words with blanks between them. -/
def joinL (e : UInt8) (enc : List UInt8 → List UInt8) : List (List UInt8) → List UInt8
  | [] => []
  | [ch] => wordL e (enc ch)
  | ch :: cs => wordL e (enc ch) ++ 32 :: joinL e enc cs

theorem take_word (w r : List UInt8) (hw : ∀ c ∈ w, c ≠ 32) (hr : r = [] ∨ r.head? = some 32) : (w ++ r).takeWhile noSp = w ∧ (w ++ r).dropWhile noSp = r := by
  induction w with
  | nil =>
    rcases hr with rfl | hr
    · exact ⟨rfl, rfl⟩
    · cases r with
      | nil => cases hr
      | cons x y =>
        obtain rfl : x = 32 := by simpa using hr
        exact ⟨rfl, rfl⟩
  | cons c s ih =>
    have hc : noSp c = true := by simpa [noSp] using hw c (by simp)
    obtain ⟨h1, h2⟩ := ih (fun x hx => hw x (by simp [hx]))
    rw [List.cons_append, List.takeWhile_cons_of_pos hc, List.dropWhile_cons_of_pos hc, h1, h2]
    exact ⟨rfl, rfl⟩

theorem specL_words (e : UInt8) (enc : List UInt8 → List UInt8) : ∀ (cs : List (List UInt8)) (bl : List UInt8) (cd : Bool), cs ≠ [] → (∀ ch ∈ cs, WordOf e enc ch) → (bl = [] ∨ cd = true) → specL (joinL e enc cs) bl cd = some cs.flatten
  | [], _, _, h, _, _ => absurd rfl h
  | ch :: cs, bl, cd, _, hw, hbl => by
    have h0 := hw ch (by simp)
    have hok := wordL_ok h0
    have hns : ∀ c ∈ wordL e (enc ch), c ≠ 32 := fun c hc e => by have := (hok c hc).1; rw [e] at this; exact absurd this (by decide)
    have key : ∀ r : List UInt8, (r = [] ∨ r.head? = some 32) → specL (wordL e (enc ch) ++ r) bl cd = (specL r [] true).map fun o => ch ++ o := by
      intro r hr
      obtain ⟨h1, h2⟩ := take_word _ r hns hr
      have hm : markedL (((61 : UInt8) :: (63 :: (utfN ++ 63 :: e :: 63 :: (enc ch ++ [63, 61])) ++ r)).takeWhile noSp) = true := by
        have : ((61 : UInt8) :: (63 :: (utfN ++ 63 :: e :: 63 :: (enc ch ++ [63, 61])) ++ r)).takeWhile noSp = wordL e (enc ch) := h1
        rw [this]; rfl
      have hs := specL_mark 61 (63 :: (utfN ++ 63 :: e :: 63 :: (enc ch ++ [63, 61])) ++ r) bl cd (by decide) hm
      have e1 : ((61 : UInt8) :: (63 :: (utfN ++ 63 :: e :: 63 :: (enc ch ++ [63, 61])) ++ r)) = wordL e (enc ch) ++ r := rfl
      rw [e1, h1, h2] at hs
      have hd : decodedL (wordL e (enc ch)) = some ch := coded_decoded h0.coded
      rw [hs, hd]
      have hg : (if cd then [] else bl) = ([] : List UInt8) := by rcases hbl with rfl | rfl <;> simp
      rw [hg]; rfl
    cases cs with
    | nil =>
      have := key [] (.inl rfl)
      rw [List.append_nil] at this
      show specL (wordL e (enc ch)) bl cd = _
      rw [this, specL_nil]; simp
    | cons c2 r2 =>
      show specL (wordL e (enc ch) ++ 32 :: joinL e enc (c2 :: r2)) bl cd = _
      rw [key _ (.inr rfl), specL_sp]
      have hj : ∃ r, joinL e enc (c2 :: r2) = 61 :: r := by
        cases r2 with
        | nil => exact ⟨_, rfl⟩
        | cons a b => exact ⟨_, rfl⟩
      obtain ⟨r, hr⟩ := hj
      have h3 : ((32 : UInt8) :: joinL e enc (c2 :: r2)).dropWhile isSp = joinL e enc (c2 :: r2) := by rw [hr]; rfl
      have h4 : ((32 : UInt8) :: joinL e enc (c2 :: r2)).takeWhile isSp = [32] := by rw [hr]; rfl
      rw [h3, h4, specL_words e enc (c2 :: r2) [32] true (by simp) (fun x hx => hw x (by simp [hx])) (.inr rfl)]
      simp

theorem joinL_ok (e : UInt8) (enc : List UInt8 → List UInt8) : ∀ (cs : List (List UInt8)), (∀ ch ∈ cs, WordOf e enc ch) → ∀ c ∈ joinL e enc cs, 32 ≤ c.toNat ∧ c.toNat ≤ 126
  | [], _, c, hc => by cases hc
  | [ch], hw, c, hc => by have := wordL_ok (hw ch (by simp)) c hc; omega
  | ch :: c2 :: r2, hw, c, hc => by
    rcases List.mem_append.1 (show c ∈ wordL e (enc ch) ++ 32 :: joinL e enc (c2 :: r2) from hc) with hc | hc
    · have := wordL_ok (hw ch (by simp)) c hc; omega
    · rcases List.mem_cons.1 hc with rfl | hc
      · decide
      · exact joinL_ok e enc (c2 :: r2) (fun x hx => hw x (by simp [hx])) c hc
end Go.Proofs.YtbpoecfbcmdeeaaDoor

namespace Go.Proofs.YtbpoecfbcmdeeaaDoor
open Go.Lib

def hexU (n : Nat) : UInt8 := if n < 10 then UInt8.ofNat (48 + n) else UInt8.ofNat (55 + n)
theorem hexV_hexU (n : Nat) (h : n < 16) : hexV (hexU n) = some n := by
  have : ∀ n : Fin 16, hexV (hexU n.val) = some n.val := by decide
  exact this ⟨n, h⟩
theorem hexU_sign (n : Nat) (h : n < 16) : 48 ≤ (hexU n).toNat ∧ (hexU n).toNat ≤ 70 ∧ hexU n ≠ 63 := by
  have : ∀ n : Fin 16, 48 ≤ (hexU n.val).toNat ∧ (hexU n.val).toNat ≤ 70 ∧ hexU n.val ≠ 63 := by decide
  exact this ⟨n, h⟩

/-- May the sign stand for itself? -/
def selfQ (c : UInt8) : Bool := decide (33 ≤ c.toNat) && decide (c.toNat ≤ 126) && c != 61 && c != 63 && c != 95
/-- A byte by Q. -/
def qC (c : UInt8) : List UInt8 := if c = 32 then [95] else if selfQ c then [c] else [61, hexU (c.toNat / 16), hexU (c.toNat % 16)]
def qL (l : List UInt8) : List UInt8 := l.flatMap qC
theorem qL_app (a b : List UInt8) : qL (a ++ b) = qL a ++ qL b := by simp [qL]
theorem qL_cons (c : UInt8) (r : List UInt8) : qL (c :: r) = qC c ++ qL r := rfl

theorem unqL_qL : ∀ l : List UInt8, unqL (qL l) = some l
  | [] => unqL_nil
  | c :: r => by
    have ih := unqL_qL r
    rw [qL_cons]
    unfold qC
    by_cases h32 : c = 32
    · rw [if_pos h32, h32]
      show unqL (95 :: qL r) = _
      rw [unqL_under, ih]; rfl
    · rw [if_neg h32]
      cases hs : selfQ c with
      | true =>
        rw [if_pos rfl]
        have h : ((33 ≤ c.toNat ∧ c.toNat ≤ 126) ∧ c ≠ 61 ∧ c ≠ 63) ∧ c ≠ 95 := by simpa [selfQ, and_assoc] using hs
        show unqL (c :: qL r) = _
        rw [unqL_plain c _ h.2 h.1.2.1 (by simp [okQ]; omega), ih]; rfl
      | false =>
        rw [if_neg (by simp)]
        have hc := c.toNat_lt
        show unqL (61 :: hexU (c.toNat / 16) :: hexU (c.toNat % 16) :: qL r) = _
        rw [unqL_hex _ _ _ _ _ (hexV_hexU _ (by omega)) (hexV_hexU _ (by omega)), ih]
        have e : 16 * (c.toNat / 16) + c.toNat % 16 = c.toNat := by omega
        rw [e, UInt8.ofNat_toNat]; rfl

theorem qC_signs (c : UInt8) : ∀ x ∈ qC c, (33 ≤ x.toNat ∧ x.toNat ≤ 126) ∧ x ≠ 63 := by
  have hc := c.toNat_lt
  intro x hx
  unfold qC at hx
  split at hx
  · simp at hx; subst hx; decide
  · split at hx
    · rename_i hs
      have h : ((33 ≤ c.toNat ∧ c.toNat ≤ 126) ∧ c ≠ 61 ∧ c ≠ 63) ∧ c ≠ 95 := by simpa [selfQ, and_assoc] using hs
      simp at hx; subst hx
      exact ⟨h.1.1, h.1.2.2⟩
    · have h1 := hexU_sign (c.toNat / 16) (by omega)
      have h2 := hexU_sign (c.toNat % 16) (by omega)
      simp at hx
      rcases hx with rfl | rfl | rfl
      · decide
      · exact ⟨⟨by omega, by omega⟩, h1.2.2⟩
      · exact ⟨⟨by omega, by omega⟩, h2.2.2⟩
theorem qL_signs (l : List UInt8) : ∀ x ∈ qL l, (33 ≤ x.toNat ∧ x.toNat ≤ 126) ∧ x ≠ 63 := by
  intro x hx
  obtain ⟨c, _, hc⟩ := List.mem_flatMap.1 hx
  exact qC_signs c x hc
theorem qC_pos (c : UInt8) : 1 ≤ (qC c).length := by unfold qC; split <;> (try split) <;> simp
theorem qL_ne (l : List UInt8) (h : l ≠ []) : qL l ≠ [] := by
  cases l with
  | nil => exact absurd rfl h
  | cons c r =>
    intro e
    have h1 := congrArg List.length e
    rw [qL_cons, List.length_append] at h1
    have h2 := qC_pos c
    have h3 : ([] : List UInt8).length = 0 := rfl
    omega

theorem conv_utf (ch : List UInt8) (hv : validD ch = true) : convL utfN ch = some ch := by
  unfold convL
  rw [if_pos (by decide), if_pos hv]
theorem qWord (ch : List UInt8) (hne : ch ≠ []) (hv : validD ch = true) (hl : (qL ch).length ≤ 63) : WordOf 113 qL ch where
  coded := {
    text := rfl
    nocs := by decide
    noe := .inr (.inl rfl)
    notx := fun c hc => (qL_signs ch c hc).2
    ne := qL_ne ch hne
    way := by show unqL (qL ch) = some ch; exact unqL_qL ch
    conv := conv_utf ch hv
    len := by simp [utfN]; omega }
  signs := fun c hc => (qL_signs ch c hc).1

/-- Base64. -/
def b64L : List UInt8 → List UInt8
  | [] => []
  | [a] => [digC (a.toNat / 4), digC (a.toNat % 4 * 16), 61, 61]
  | [a, b] => [digC (a.toNat / 4), digC (a.toNat % 4 * 16 + b.toNat / 16), digC (b.toNat % 16 * 4), 61]
  | a :: b :: c :: r => digC (a.toNat / 4) :: digC (a.toNat % 4 * 16 + b.toNat / 16) :: digC (b.toNat % 16 * 4 + c.toNat / 64) :: digC (c.toNat % 64) :: b64L r

theorem b64V_digC (j : Nat) (h : j < 64) : b64V (digC j) = some j := (dig_iff j h _).1 rfl
theorem digC_sign (j : Nat) (h : j < 64) : (33 ≤ (digC j).toNat ∧ (digC j).toNat ≤ 126) ∧ digC j ≠ 63 := by
  have : ∀ n : Fin 64, (33 ≤ (digC n.val).toNat ∧ (digC n.val).toNat ≤ 126) ∧ digC n.val ≠ 63 := by decide
  exact this ⟨j, h⟩
theorem b64L_len : ∀ l : List UInt8, (b64L l).length = (l.length + 2) / 3 * 4
  | [] => rfl
  | [_] => by simp [b64L]
  | [_, _] => by simp [b64L]
  | _ :: _ :: _ :: r => by simp only [b64L, List.length_cons]; rw [b64L_len r]; omega
theorem u8_of (c : UInt8) (n : Nat) (h : n = c.toNat) : UInt8.ofNat n = c := by rw [h, UInt8.ofNat_toNat]
theorem unbL_b64L : ∀ l : List UInt8, unbL (b64L l) = some l
  | [] => rfl
  | [a] => by
    have ha := a.toNat_lt
    show (quadL _ _ 61 61 true).bind (fun x => (unbL []).map (x ++ ·)) = _
    unfold quadL
    simp only [b64V_digC _ (show a.toNat / 4 < 64 by omega), b64V_digC _ (show a.toNat % 4 * 16 < 64 by omega), b64V_61]
    rw [if_pos ⟨trivial, trivial, trivial, by omega⟩]
    show some ([UInt8.ofNat ((a.toNat / 4 * 262144 + a.toNat % 4 * 16 * 4096) / 65536)] ++ []) = _
    rw [u8_of a _ (by omega)]; rfl
  | [a, b] => by
    have ha := a.toNat_lt
    have hb := b.toNat_lt
    show (quadL _ _ _ 61 true).bind (fun x => (unbL []).map (x ++ ·)) = _
    unfold quadL
    simp only [b64V_digC _ (show a.toNat / 4 < 64 by omega), b64V_digC _ (show a.toNat % 4 * 16 + b.toNat / 16 < 64 by omega), b64V_digC _ (show b.toNat % 16 * 4 < 64 by omega), b64V_61]
    rw [if_pos ⟨trivial, trivial, by omega⟩]
    show some ([UInt8.ofNat ((a.toNat / 4 * 262144 + (a.toNat % 4 * 16 + b.toNat / 16) * 4096 + b.toNat % 16 * 4 * 64) / 65536), UInt8.ofNat ((a.toNat / 4 * 262144 + (a.toNat % 4 * 16 + b.toNat / 16) * 4096 + b.toNat % 16 * 4 * 64) / 256 % 256)] ++ []) = _
    rw [u8_of a _ (by omega), u8_of b _ (by omega)]; rfl
  | a :: b :: c :: r => by
    have ha := a.toNat_lt
    have hb := b.toNat_lt
    have hc := c.toNat_lt
    show (quadL _ _ _ _ (b64L r).isEmpty).bind (fun x => (unbL (b64L r)).map (x ++ ·)) = _
    unfold quadL
    simp only [b64V_digC _ (show a.toNat / 4 < 64 by omega), b64V_digC _ (show a.toNat % 4 * 16 + b.toNat / 16 < 64 by omega), b64V_digC _ (show b.toNat % 16 * 4 + c.toNat / 64 < 64 by omega), b64V_digC _ (show c.toNat % 64 < 64 by omega)]
    rw [unbL_b64L r]
    show some ([UInt8.ofNat _, UInt8.ofNat _, UInt8.ofNat _] ++ r) = _
    rw [u8_of a _ (by omega), u8_of b _ (by omega), u8_of c _ (by omega)]; rfl
theorem b64L_signs : ∀ l : List UInt8, ∀ x ∈ b64L l, (33 ≤ x.toNat ∧ x.toNat ≤ 126) ∧ x ≠ 63
  | [], x, hx => by cases hx
  | [a], x, hx => by
    have ha := a.toNat_lt
    simp [b64L] at hx
    rcases hx with rfl | rfl | rfl
    · exact digC_sign _ (by omega)
    · exact digC_sign _ (by omega)
    · decide
  | [a, b], x, hx => by
    have ha := a.toNat_lt
    have hb := b.toNat_lt
    simp [b64L] at hx
    rcases hx with rfl | rfl | rfl | rfl
    · exact digC_sign _ (by omega)
    · exact digC_sign _ (by omega)
    · exact digC_sign _ (by omega)
    · decide
  | a :: b :: c :: r, x, hx => by
    have ha := a.toNat_lt
    have hb := b.toNat_lt
    have hc := c.toNat_lt
    simp only [b64L, List.mem_cons] at hx
    rcases hx with rfl | rfl | rfl | rfl | hx
    · exact digC_sign _ (by omega)
    · exact digC_sign _ (by omega)
    · exact digC_sign _ (by omega)
    · exact digC_sign _ (by omega)
    · exact b64L_signs r x hx
theorem bWord (ch : List UInt8) (hne : ch ≠ []) (hv : validD ch = true) (hl : ch.length ≤ 45) : WordOf 98 b64L ch where
  coded := {
    text := rfl
    nocs := by decide
    noe := .inr (.inr (.inr rfl))
    notx := fun c hc => (b64L_signs ch c hc).2
    ne := by
      intro e
      have h1 := congrArg List.length e
      rw [b64L_len] at h1
      have h2 : 0 < ch.length := List.length_pos_iff.2 hne
      have h3 : ([] : List UInt8).length = 0 := rfl
      omega
    way := by show unbL (b64L ch) = some ch; exact unbL_b64L ch
    conv := conv_utf ch hv
    len := by have := b64L_len ch; simp [utfN]; omega }
  signs := fun c hc => (b64L_signs ch c hc).1
end Go.Proofs.YtbpoecfbcmdeeaaDoor
