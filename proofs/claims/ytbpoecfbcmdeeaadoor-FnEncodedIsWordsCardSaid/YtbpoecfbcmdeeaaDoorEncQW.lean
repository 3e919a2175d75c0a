/- gomime's qEncode: the walk. -/
import Derived.Test.YtbpoecfbcmdeeaaDoorEncN
namespace Go.Proofs.YtbpoecfbcmdeeaaDoor
open Go.RowKit

theorem decodeGo_list (l : List UInt8) (h : l ≠ []) : Lib.decodeGo (mkB l) = Lib.decodeL l := by
  unfold Lib.decodeGo
  cases l with
  | nil => exact absurd rfl h
  | cons c r => rw [if_neg (by rw [size_mkB]; simp)]; rfl

/-- Complete words, each with a blank behind it. -/
def doneL (e : UInt8) (enc : List UInt8 → List UInt8) (C : List (List UInt8)) : List UInt8 := C.flatMap fun ch => wordL e (enc ch) ++ [32]
theorem join_snoc (e : UInt8) (enc : List UInt8 → List UInt8) : ∀ (C : List (List UInt8)) (ch : List UInt8), joinL e enc (C ++ [ch]) = doneL e enc C ++ wordL e (enc ch)
  | [], ch => rfl
  | [c], ch => by simp [joinL, doneL]
  | c :: d :: r, ch => by
    have ih := join_snoc e enc (d :: r) ch
    show wordL e (enc c) ++ 32 :: joinL e enc ((d :: r) ++ [ch]) = _
    rw [ih]
    simp [doneL]
theorem word_open (e : UInt8) (tx : List UInt8) : wordL e tx = openL e utfN ++ tx ++ [63, 61] := by simp [wordL, openL, utfN]

/-- Where an encoder stands at place i of the text. -/
structure EncAtI (e : UInt8) (enc : List UInt8 → List UInt8) (text out : List UInt8) (i : Nat) (C : List (List UInt8)) (cur : List UInt8) : Prop where
  txt : text.take i = C.flatten ++ cur
  words : ∀ ch ∈ C, WordOf e enc ch
  valid : Lib.validD cur = true
  rest : Lib.validD (text.drop i) = true
  has : i = 0 ∨ cur ≠ []
  outp : out = doneL e enc C ++ (openL e utfN ++ enc cur)
  len : out.length ≤ 10 + 16 * i

theorem enc_start (e : UInt8) (enc : List UInt8 → List UInt8) (text : List UInt8) (hv : Lib.validD text = true) (h0 : enc [] = []) : EncAtI e enc text (openL e utfN) 0 [] [] :=
  ⟨by simp, (fun _ h => by cases h), rfl, by simpa using hv, .inl rfl, by simp [doneL, h0], by simp [openL, utfN]⟩

/-- What qEncode leaves: words that mean the text, the last one's end not yet written. -/
def QDone (e : UInt8) (enc : List UInt8 → List UInt8) (text out : List UInt8) : Prop := ∃ cs, cs ≠ [] ∧ (∀ ch ∈ cs, WordOf e enc ch) ∧ cs.flatten = text ∧ out ++ [63, 61] = joinL e enc cs ∧ out.length ≤ 10 + 20 * text.length

theorem q_done {text out cur : List UInt8} {C : List (List UInt8)} (h : EncAtI 113 qL text out text.length C cur) (hne : text ≠ []) (hl : (qL cur).length ≤ 63) : QDone 113 qL text out := by
  have hc : cur ≠ [] := by
    rcases h.has with h0 | h0
    · exact absurd (List.length_eq_zero_iff.1 h0) hne
    · exact h0
  refine ⟨C ++ [cur], by simp, ?_, ?_, ?_, by have := h.len; omega⟩
  · intro ch hch
    rcases List.mem_append.1 hch with hch | hch
    · exact h.words ch hch
    · obtain rfl := List.mem_singleton.1 hch
      exact qWord _ hc h.valid hl
  · have := h.txt
    rw [List.take_of_length_le (Nat.le_refl _)] at this
    rw [this]; simp
  · rw [join_snoc, word_open, h.outp]; simp

/-- A rune more. -/
theorem q_more {text out cur rn : List UInt8} {i n : Nat} {C : List (List UInt8)} (h : EncAtI 113 qL text out i C cur) (hrn : rn = (text.drop i).take n) (hn : 1 ≤ n) (hin : i + n ≤ text.length) (hvr : Lib.validD rn = true) (hvd : Lib.validD (text.drop (i + n)) = true) (hlen : (qL rn).length ≤ 3 * n) :
    EncAtI 113 qL text (out ++ qL rn) (i + n) C (cur ++ rn) := by
  have hrl : rn.length = n := by rw [hrn, List.length_take, List.length_drop]; omega
  refine ⟨?_, h.words, validD_app _ _ _ (Nat.le_refl _) h.valid hvr, hvd, .inr (fun e => ?_), ?_, ?_⟩
  · rw [List.take_add, h.txt, ← hrn, List.append_assoc]
  · have := congrArg List.length e
    rw [List.length_append, hrl] at this
    simp at this; omega
  · rw [h.outp, qL_app]; simp
  · rw [List.length_append]; have := h.len; omega
/-- A word is ended, another begun. -/
theorem q_split {text out cur : List UInt8} {i : Nat} {C : List (List UInt8)} (h : EncAtI 113 qL text out i C cur) (hc : cur ≠ []) (hl : (qL cur).length ≤ 63) (o2 : List UInt8) (ho : o2 = out ++ ([63, 61, 32] ++ openL 113 utfN)) :
    (text.take i = (C ++ [cur]).flatten ++ []) ∧ (∀ ch ∈ C ++ [cur], WordOf 113 qL ch) ∧ o2 = doneL 113 qL (C ++ [cur]) ++ (openL 113 utfN ++ qL []) := by
  refine ⟨by rw [h.txt]; simp, ?_, ?_⟩
  · intro ch hch
    rcases List.mem_append.1 hch with hch | hch
    · exact h.words ch hch
    · obtain rfl := List.mem_singleton.1 hch
      exact qWord _ hc h.valid hl
  · rw [ho, h.outp]
    simp [doneL, word_open, qL]
theorem q_more2 {text out cur rn : List UInt8} {i n : Nat} {C : List (List UInt8)} (h : EncAtI 113 qL text out i C cur) (hc : cur ≠ []) (hl : (qL cur).length ≤ 63) (hrn : rn = (text.drop i).take n) (hn : 1 ≤ n) (hin : i + n ≤ text.length) (hvr : Lib.validD rn = true) (hvd : Lib.validD (text.drop (i + n)) = true) (hlen : (qL rn).length ≤ 3 * n) :
    EncAtI 113 qL text (out ++ ([63, 61, 32] ++ openL 113 utfN) ++ qL rn) (i + n) (C ++ [cur]) rn := by
  have hrl : rn.length = n := by rw [hrn, List.length_take, List.length_drop]; omega
  obtain ⟨h1, h2, h3⟩ := q_split h hc hl _ rfl
  refine ⟨?_, h2, hvr, hvd, .inr (fun e => by rw [e] at hrl; simp at hrl; omega), ?_, ?_⟩
  · rw [List.take_add, h1, ← hrn, List.append_nil]
  · rw [h3]; simp [qL]
  · rw [List.length_append, List.length_append]; have := h.len; simp [openL, utfN]; omega
end Go.Proofs.YtbpoecfbcmdeeaaDoor
