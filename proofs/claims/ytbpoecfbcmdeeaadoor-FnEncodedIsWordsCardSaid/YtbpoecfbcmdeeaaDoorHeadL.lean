/- A text of several words, plainly: what it means, and where its encoded words stand. No program in sight. -/
import Derived.Test.YtbpoecfbcmdeeaaDoorWText
import Derived.Test.YtbpoecfbcmdeeaaDoorFind
namespace Go.Proofs.YtbpoecfbcmdeeaaDoor

/-- Signs of encoding stand in a word. -/
def markedL : List UInt8 → Bool
  | a :: b :: r => (a == 61 && b == 63) || (a == 63 && b == 61) || markedL (b :: r)
  | _ => false

def isSp (c : UInt8) : Bool := c == 32
def noSp (c : UInt8) : Bool := c != 32

/-- What a text adds, with blanks ahead of it; coded: the word ahead of these was encoded. -/
def specR (fuel : Nat) (l blanks : List UInt8) (coded : Bool) : Option (List UInt8) :=
  match fuel with
  | 0 => none
  | f + 1 =>
    match l with
    | [] => some blanks
    | c :: r =>
      if c = 32 then specR f ((c :: r).dropWhile isSp) ((c :: r).takeWhile isSp) coded
      else
        if markedL ((c :: r).takeWhile noSp) then
          (decodedL ((c :: r).takeWhile noSp)).bind fun t => (specR f ((c :: r).dropWhile noSp) [] true).map fun o => (if coded then [] else blanks) ++ (t ++ o)
        else (specR f ((c :: r).dropWhile noSp) [] false).map fun o => blanks ++ ((c :: r).takeWhile noSp ++ o)

theorem drop_lt_sp (r : List UInt8) : ((32 :: r).dropWhile isSp).length < (32 :: r).length := by
  rw [List.dropWhile_cons_of_pos (by decide)]
  have := (List.dropWhile_sublist (l := r) isSp).length_le
  simp; omega
theorem drop_lt_no (c : UInt8) (r : List UInt8) (h : c ≠ 32) : ((c :: r).dropWhile noSp).length < (c :: r).length := by
  rw [List.dropWhile_cons_of_pos (by simpa [noSp] using h)]
  have := (List.dropWhile_sublist (l := r) noSp).length_le
  simp; omega

/-- Any fuel that lasts serves. -/
theorem specR_fuel : ∀ (f g : Nat) (l blanks : List UInt8) (coded : Bool), l.length < f → l.length < g → specR f l blanks coded = specR g l blanks coded
  | 0, _, _, _, _, h, _ => absurd h (by omega)
  | _ + 1, 0, _, _, _, _, h => absurd h (by omega)
  | f + 1, g + 1, [], _, _, _, _ => rfl
  | f + 1, g + 1, c :: r, blanks, coded, hf, hg => by
    unfold specR
    simp only
    by_cases hc : c = 32
    · subst hc
      have := drop_lt_sp r
      rw [if_pos rfl, if_pos rfl, specR_fuel f g _ _ _ (by omega) (by omega)]
    · have := drop_lt_no c r hc
      rw [if_neg hc, if_neg hc, specR_fuel f g _ [] true (by omega) (by omega), specR_fuel f g _ [] false (by omega) (by omega)]

/-- What a text of words adds. -/
def specL (l blanks : List UInt8) (coded : Bool) : Option (List UInt8) := specR (l.length + 1) l blanks coded
theorem specL_nil (blanks : List UInt8) (coded : Bool) : specL [] blanks coded = some blanks := rfl
theorem specL_sp (r blanks : List UInt8) (coded : Bool) : specL (32 :: r) blanks coded = specL ((32 :: r).dropWhile isSp) ((32 :: r).takeWhile isSp) coded := by
  have h := drop_lt_sp r
  unfold specL
  conv => lhs; unfold specR
  simp only [if_pos]
  exact specR_fuel _ _ _ _ _ h (by omega)
theorem specL_mark (c : UInt8) (r blanks : List UInt8) (coded : Bool) (hc : c ≠ 32) (hm : markedL ((c :: r).takeWhile noSp) = true) :
    specL (c :: r) blanks coded = (decodedL ((c :: r).takeWhile noSp)).bind fun t => (specL ((c :: r).dropWhile noSp) [] true).map fun o => (if coded then [] else blanks) ++ (t ++ o) := by
  have h := drop_lt_no c r hc
  unfold specL
  conv => lhs; unfold specR
  simp only
  rw [if_neg hc, if_pos hm, specR_fuel _ (((c :: r).dropWhile noSp).length + 1) _ [] true h (by omega)]
theorem specL_word (c : UInt8) (r blanks : List UInt8) (coded : Bool) (hc : c ≠ 32) (hm : markedL ((c :: r).takeWhile noSp) = false) :
    specL (c :: r) blanks coded = (specL ((c :: r).dropWhile noSp) [] false).map fun o => blanks ++ ((c :: r).takeWhile noSp ++ o) := by
  have h := drop_lt_no c r hc
  unfold specL
  conv => lhs; unfold specR
  simp only
  rw [if_neg hc, if_neg (by simp [hm]), specR_fuel _ (((c :: r).dropWhile noSp).length + 1) _ [] false h (by omega)]

/-- The mark of an encoded word's beginning. -/
abbrev eq2 : List UInt8 := [61, 63]

theorem index_skip (a r : List UInt8) (h : ∀ j, j < a.length → ((a ++ r).drop j).take 2 ≠ eq2) : indexO eq2 (a ++ r) = (indexO eq2 r).map (· + a.length) := by
  induction a with
  | nil => cases hx : indexO eq2 r <;> simp [hx]
  | cons c s ih =>
    have h0 := h 0 (by simp)
    rw [List.cons_append, indexO, if_neg (by simpa using h0), ih (fun j hj => by have := h (j + 1) (by simp; omega); simpa using this)]
    cases indexO eq2 r with
    | none => rfl
    | some x => simp; omega

theorem unmarked_at : ∀ (a : List UInt8) (j : Nat), markedL a = false → (a.drop j).take 2 ≠ eq2
  | [], j, _ => by simp
  | [x], j, _ => by cases j <;> simp
  | x :: y :: r, j, h => by
    unfold markedL at h
    simp only [Bool.or_eq_false_iff] at h
    cases j with
    | zero =>
      intro e
      simp at e
      obtain ⟨rfl, rfl⟩ := e
      simp at h
    | succ j => simpa using unmarked_at (y :: r) j h.2
theorem index_word (a r : List UInt8) (h : markedL a = false) (hr : r = [] ∨ r.head? = some 32) : indexO eq2 (a ++ r) = (indexO eq2 r).map (· + a.length) := by
  refine index_skip a r (fun j hj => ?_)
  have h1 := unmarked_at a j h
  intro e
  rw [List.drop_append, show j - a.length = 0 by omega, List.drop_zero] at e
  by_cases h2 : j + 2 ≤ a.length
  · rw [List.take_append_of_le_length (by rw [List.length_drop]; omega)] at e
    exact h1 e
  · have hl : (a.drop j).length = 1 := by rw [List.length_drop]; omega
    match hd : a.drop j, hl with
    | [x], _ =>
      rw [hd] at e
      rcases hr with rfl | hr
      · simp at e
      · cases r with
        | nil => simp at e
        | cons y z => simp at e hr; rw [hr] at e; exact absurd e.2 (by decide)
theorem index_blanks (a r : List UInt8) (h : ∀ c ∈ a, c = 32) : indexO eq2 (a ++ r) = (indexO eq2 r).map (· + a.length) := by
  refine index_skip a r (fun j hj => ?_)
  intro e
  have h1 : (a ++ r)[j]? = some a[j] := by rw [List.getElem?_append_left hj, List.getElem?_eq_getElem hj]
  have h2 := h a[j] (List.getElem_mem hj)
  rw [h2] at h1
  have h3 := congrArg List.head? e
  rw [List.head?_take, List.head?_drop, h1] at h3
  simp at h3

theorem take_sp : ∀ (l : List UInt8), ∀ c ∈ l.takeWhile isSp, c = 32
  | [], c, hc => by simp at hc
  | x :: r, c, hc => by
    cases hx : isSp x with
    | false => rw [List.takeWhile_cons_of_neg (by simp [hx])] at hc; simp at hc
    | true =>
      rw [List.takeWhile_cons_of_pos hx] at hc
      rcases List.mem_cons.1 hc with rfl | hc
      · simpa [isSp] using hx
      · exact take_sp r c hc
theorem drop_no_head (l : List UInt8) : l.dropWhile noSp = [] ∨ (l.dropWhile noSp).head? = some 32 := by
  cases h : l.dropWhile noSp with
  | nil => exact .inl rfl
  | cons c r =>
    right
    have := List.head?_dropWhile_not noSp l
    rw [h] at this
    simp [noSp] at this
    rw [this]; rfl
/-- What stands between two words. -/
def gapO (coded : Bool) (g : List UInt8) : List UInt8 := if coded && g.all isSp then [] else g

theorem head_sp (l : List UInt8) : (l.dropWhile isSp).head? ≠ some 32 := by
  intro h
  cases hd : l.dropWhile isSp with
  | nil => rw [hd] at h; cases h
  | cons c r =>
    have := List.head?_dropWhile_not isSp l
    rw [hd] at this h
    simp at h
    subst h
    simp [isSp] at this

theorem word_eq {c : UInt8} {r : List UInt8} : (c :: r).takeWhile noSp ++ (c :: r).dropWhile noSp = c :: r := List.takeWhile_append_dropWhile
theorem sp_eq {c : UInt8} {r : List UInt8} : (c :: r).takeWhile isSp ++ (c :: r).dropWhile isSp = c :: r := List.takeWhile_append_dropWhile

theorem coded_here {w cs tx b t : List UInt8} {e : UInt8} (h : Coded w cs e tx b t) (rest : List UInt8) : indexO eq2 (w ++ rest) = some 0 := by
  apply indexO_here
  rw [h.text]; rfl

theorem specL_none : ∀ (n : Nat) (l blanks : List UInt8) (coded : Bool) (r : List UInt8), l.length ≤ n → indexO eq2 l = none → specL l blanks coded = some r → (blanks ≠ [] → l.head? ≠ some 32) → r = blanks ++ l
  | _, [], blanks, coded, r, _, _, h, _ => by
    rw [specL_nil] at h
    rw [List.append_nil]; exact (Option.some.inj h).symm
  | 0, c :: l, _, _, _, hn, _, _, _ => absurd hn (by simp)
  | n + 1, c :: l, blanks, coded, r, hn, hi, h, hb => by
    by_cases hc : c = 32
    · subst hc
      have hbl : blanks = [] := Classical.byContradiction fun hne => hb hne rfl
      subst hbl
      rw [specL_sp] at h
      have hlt := drop_lt_sp l
      have hi2 : indexO eq2 ((32 :: l).dropWhile isSp) = none := by
        have h1 := index_blanks _ ((32 :: l).dropWhile isSp) (take_sp (32 :: l))
        rw [sp_eq, hi] at h1
        cases hx : indexO eq2 ((32 :: l).dropWhile isSp) with
        | none => rfl
        | some x => rw [hx] at h1; cases h1
      have := specL_none n _ _ _ _ (by simp at hn hlt; omega) hi2 h (fun _ => head_sp _)
      rw [this, sp_eq, List.nil_append]
    · cases hm : markedL ((c :: l).takeWhile noSp) with
      | true =>
        rw [specL_mark c l _ _ hc hm] at h
        cases hd : decodedL ((c :: l).takeWhile noSp) with
        | none => rw [hd] at h; cases h
        | some t =>
          obtain ⟨cs, e, tx, b, hcd⟩ := decodedL_coded _ _ hd
          have := coded_here hcd ((c :: l).dropWhile noSp)
          rw [word_eq, hi] at this
          cases this
      | false =>
        rw [specL_word c l _ _ hc hm] at h
        have hlt := drop_lt_no c l hc
        have h1 := index_word _ ((c :: l).dropWhile noSp) hm (drop_no_head _)
        rw [word_eq, hi] at h1
        have hi2 : indexO eq2 ((c :: l).dropWhile noSp) = none := by
          cases hx : indexO eq2 ((c :: l).dropWhile noSp) with
          | none => rfl
          | some x => rw [hx] at h1; cases h1
        cases hr : specL ((c :: l).dropWhile noSp) [] false with
        | none => rw [hr] at h; cases h
        | some o =>
          rw [hr] at h
          have h2 := specL_none n _ _ _ _ (by simp at hn hlt; omega) hi2 hr (fun h => absurd rfl h)
          have h3 := (Option.some.inj h).symm
          simp only at h3
          rw [h3, h2, List.nil_append, word_eq]

/-- Where the first encoded word of a text stands, and what comes of the text. -/
structure First (l blanks : List UInt8) (coded : Bool) (r : List UInt8) (k : Nat) (cs : List UInt8) (e : UInt8) (tx b t rest r2 : List UInt8) : Prop where
  text : l = l.take k ++ ((61 :: 63 :: (cs ++ 63 :: e :: 63 :: (tx ++ [63, 61]))) ++ rest)
  word : Coded (61 :: 63 :: (cs ++ 63 :: e :: 63 :: (tx ++ [63, 61]))) cs e tx b t
  go : specL rest [] true = some r2
  out : r = gapO coded (blanks ++ l.take k) ++ (t ++ r2)
  le : k ≤ l.length

theorem specL_some : ∀ (n : Nat) (l blanks : List UInt8) (coded : Bool) (r : List UInt8) (k : Nat), l.length ≤ n → indexO eq2 l = some k → specL l blanks coded = some r → (∀ c ∈ blanks, c = 32) → (blanks ≠ [] → l.head? ≠ some 32) →
    ∃ cs e tx b t rest r2, First l blanks coded r k cs e tx b t rest r2
  | _, [], _, _, _, _, _, hi, _, _, _ => by simp [indexO] at hi
  | 0, c :: l, _, _, _, _, hn, _, _, _, _ => absurd hn (by simp)
  | n + 1, c :: l, blanks, coded, r, k, hn, hi, h, hsp, hb => by
    have hkl := (indexO_some eq2 _ _ hi).1
    by_cases hc : c = 32
    · subst hc
      have hbl : blanks = [] := Classical.byContradiction fun hne => hb hne rfl
      subst hbl
      rw [specL_sp] at h
      have hlt := drop_lt_sp l
      have h1 := index_blanks _ ((32 :: l).dropWhile isSp) (take_sp (32 :: l))
      rw [sp_eq, hi] at h1
      cases hx : indexO eq2 ((32 :: l).dropWhile isSp) with
      | none => rw [hx] at h1; cases h1
      | some k2 =>
        rw [hx] at h1
        have hk : k = k2 + ((32 :: l).takeWhile isSp).length := Option.some.inj h1
        obtain ⟨cs, e, tx, b, t, rest, r2, F⟩ := specL_some n _ _ _ _ _ (by simp at hn hlt; omega) hx h (take_sp _) (fun _ => head_sp _)
        have htk : (32 :: l).take k = (32 :: l).takeWhile isSp ++ ((32 :: l).dropWhile isSp).take k2 := by
          conv => lhs; rw [← sp_eq (c := 32) (r := l)]
          rw [hk, Nat.add_comm, List.take_append, List.take_of_length_le (by omega), Nat.add_sub_cancel_left]
        refine ⟨cs, e, tx, b, t, rest, r2, ?_, F.word, F.go, ?_, by omega⟩
        · rw [htk, List.append_assoc, ← F.text, sp_eq]
        · rw [List.nil_append, htk]; exact F.out
    · cases hm : markedL ((c :: l).takeWhile noSp) with
      | true =>
        rw [specL_mark c l _ _ hc hm] at h
        cases hd : decodedL ((c :: l).takeWhile noSp) with
        | none => rw [hd] at h; cases h
        | some t =>
          rw [hd] at h
          obtain ⟨cs, e, tx, b, hcd⟩ := decodedL_coded _ _ hd
          have h0 := coded_here hcd ((c :: l).dropWhile noSp)
          rw [word_eq, hi] at h0
          obtain rfl : k = 0 := Option.some.inj h0
          cases hr : specL ((c :: l).dropWhile noSp) [] true with
          | none => rw [hr] at h; cases h
          | some o =>
            rw [hr] at h
            have h3 := (Option.some.inj h).symm
            simp only at h3
            have htx := hcd.text
            refine ⟨cs, e, tx, b, t, _, o, ?_, htx ▸ hcd, hr, ?_, by omega⟩
            · rw [List.take_zero, List.nil_append, ← htx, word_eq]
            · rw [h3, List.take_zero, List.append_nil]
              congr 1
              unfold gapO
              have hall : blanks.all isSp = true := by
                rw [List.all_eq_true]
                intro x hx
                rw [hsp x hx]; rfl
              rw [hall, Bool.and_true]
      | false =>
        rw [specL_word c l _ _ hc hm] at h
        have hlt := drop_lt_no c l hc
        have h1 := index_word _ ((c :: l).dropWhile noSp) hm (drop_no_head _)
        rw [word_eq, hi] at h1
        cases hx : indexO eq2 ((c :: l).dropWhile noSp) with
        | none => rw [hx] at h1; cases h1
        | some k2 =>
          rw [hx] at h1
          have hk : k = k2 + ((c :: l).takeWhile noSp).length := Option.some.inj h1
          cases hr : specL ((c :: l).dropWhile noSp) [] false with
          | none => rw [hr] at h; cases h
          | some o =>
            rw [hr] at h
            have h3 := (Option.some.inj h).symm
            simp only at h3
            obtain ⟨cs, e, tx, b, t, rest, r2, F⟩ := specL_some n _ _ _ _ _ (by simp at hn hlt; omega) hx hr (fun _ h => by cases h) (fun h => absurd rfl h)
            have htk : (c :: l).take k = (c :: l).takeWhile noSp ++ ((c :: l).dropWhile noSp).take k2 := by
              conv => lhs; rw [← word_eq (c := c) (r := l)]
              rw [hk, Nat.add_comm, List.take_append, List.take_of_length_le (by omega), Nat.add_sub_cancel_left]
            refine ⟨cs, e, tx, b, t, rest, r2, ?_, F.word, F.go, ?_, by omega⟩
            · rw [htk, List.append_assoc, ← F.text, word_eq]
            · have hall : (blanks ++ (c :: l).take k).all isSp = false := by
                rw [htk, List.takeWhile_cons_of_pos (by simpa [noSp] using hc)]
                simp [isSp, hc]
              have hg : gapO coded (blanks ++ (c :: l).take k) = blanks ++ (c :: l).take k := by
                unfold gapO; rw [hall, Bool.and_false]; rfl
              have ho := F.out
              unfold gapO at ho
              simp only [Bool.false_and, List.nil_append] at ho
              rw [hg, h3, ho, htk]
              simp

theorem conv_len (cs b t : List UInt8) (h : convL cs b = some t) : t.length ≤ 2 * b.length := by
  unfold convL at h
  split at h
  · split at h
    · rw [← Option.some.inj h]; omega
    · cases h
  · split at h
    · rw [← Option.some.inj h]
      have h1 : ∀ m : List UInt8, (latinL m).length ≤ 2 * m.length := by
        intro m
        induction m with
        | nil => simp [latinL]
        | cons x y ih =>
          have h2 : (latinC x).length ≤ 2 := by unfold latinC; split <;> simp
          have h3 : latinL (x :: y) = latinC x ++ latinL y := rfl
          rw [h3, List.length_append, List.length_cons]; omega
      exact h1 b
    · split at h
      · split at h
        · rw [← Option.some.inj h]; omega
        · cases h
      · cases h
end Go.Proofs.YtbpoecfbcmdeeaaDoor
