/- Atoms with points between them, plainly. -/
import Derived.Test.YtolbedmmjennoaaDoorDotted
namespace Go.Proofs.YtolbedmmjennoaaDoor

theorem dotStep_cons (b : Bool) (c : UInt8) (r : List UInt8) (h : dotStep b (c :: r) = true) :
    (c = 46 ∧ b = false ∧ dotStep true r = true) ∨ (c ≠ 46 ∧ atomC c = true ∧ c.toNat < 128 ∧ dotStep false r = true) := by
  unfold dotStep at h
  by_cases hc : c = 46
  · rw [if_pos hc] at h
    simp at h
    exact .inl ⟨hc, h.1, h.2⟩
  · rw [if_neg hc] at h
    simp at h
    exact .inr ⟨hc, h.1.1, h.1.2, h.2⟩

theorem dotStep_ok : ∀ (l : List UInt8) (b : Bool), dotStep b l = true → ∀ x ∈ l, okC true x = true ∧ x.toNat < 128
  | [], _, _, x, hx => by simp at hx
  | c :: r, b, h, x, hx => by
    rcases dotStep_cons b c r h with ⟨h1, _, h3⟩ | ⟨_, h2, h3, h4⟩
    · rcases List.mem_cons.1 hx with rfl | hx
      · rw [h1]; exact ⟨rfl, by decide⟩
      · exact dotStep_ok r true h3 x hx
    · rcases List.mem_cons.1 hx with rfl | hx
      · exact ⟨by show (x == 46 || atomC x) = true; rw [h2, Bool.or_true], h3⟩
      · exact dotStep_ok r false h4 x hx

theorem dotStep_pair : ∀ (l : List UInt8) (b : Bool), dotStep b l = true → indexO [46, 46] l = none
  | [], _, _ => rfl
  | c :: r, b, h => by
    have ih : indexO [46, 46] r = none := by
      rcases dotStep_cons b c r h with ⟨_, _, h3⟩ | ⟨_, _, _, h4⟩
      · exact dotStep_pair r true h3
      · exact dotStep_pair r false h4
    have h1 : (c :: r).take ([46, 46] : List UInt8).length ≠ [46, 46] := by
      intro e
      cases r with
      | nil => simp at e
      | cons d t =>
        simp at e
        rcases dotStep_cons b c (d :: t) h with ⟨_, _, h3⟩ | ⟨h1, _⟩
        · rcases dotStep_cons true d t h3 with ⟨_, h5, _⟩ | ⟨h5, _⟩
          · cases h5
          · exact h5 e.2
        · exact h1 e.1
    rw [indexO, if_neg h1, ih]
    rfl

theorem dotStep_last : ∀ (l : List UInt8) (b : Bool), dotStep b l = true → ∀ m, l ≠ m ++ [46]
  | [], _, _, m => by simp
  | c :: r, b, h, m => by
    intro e
    cases m with
    | nil =>
      simp at e
      rcases dotStep_cons b c r h with ⟨_, _, h3⟩ | ⟨h1, _⟩
      · rw [e.2] at h3; cases h3
      · exact h1 e.1
    | cons d t =>
      simp at e
      rcases dotStep_cons b c r h with ⟨_, _, h3⟩ | ⟨_, _, _, h4⟩
      · exact dotStep_last r true h3 t e.2
      · exact dotStep_last r false h4 t e.2

theorem dotBad_dotted (l : List UInt8) (h : dottedL l = true) : dotBad l = false := by
  have h1 : hasSub [46, 46] l = false := by unfold hasSub; rw [dotStep_pair l true h]; rfl
  have h2 : Lib.hasPrefix l [46] = false := by
    cases l with
    | nil => rfl
    | cons c r =>
      rcases dotStep_cons true c r h with ⟨_, h5, _⟩ | ⟨h5, _⟩
      · cases h5
      · show (([46] : List UInt8).isPrefixOf (c :: r)) = false
        simp [List.isPrefixOf, Ne.symm h5]
  have h3 : Lib.hasSuffix l [46] = false := by
    cases hx : Lib.hasSuffix l [46] with
    | false => rfl
    | true =>
      obtain ⟨m, hm⟩ := List.isSuffixOf_iff_suffix.1 hx
      exact absurd hm.symm (dotStep_last l true h m)
  unfold dotBad
  rw [h1, h2, h3]; rfl

/-- May what stands behind not go on with the atom? -/
def ends : List UInt8 → Bool
  | [] => true
  | c :: _ => !(atomC c || c == 46)

theorem runLen_end (l : List UInt8) (h : ends l = true) : runLen true l = 0 := by
  cases l with
  | nil => rfl
  | cons c r =>
    have : okC true c = false := by
      simp [ends] at h
      show (c == 46 || atomC c) = false
      simp [h.1, h.2]
    simp [runLen, this]

theorem dotted_run (t z : List UInt8) (h : dottedL t = true) (hz : ends z = true) : runLen true (t ++ z) = t.length := by
  rw [runLen_skip true t.length (t ++ z) (by simp) (fun b hb => (dotStep_ok t true h b (by simpa using hb)).1)]
  rw [List.drop_left, runLen_end z hz]; rfl

theorem dotted_valid (t z : List UInt8) (h : dottedL t = true) (hz : Lib.validD z = true) : Lib.validD (t ++ z) = true := by
  rw [Lib.validD_ascii t.length (t ++ z) (fun b hb => (dotStep_ok t true h b (by simpa using hb)).2), List.drop_left, hz]

theorem dotted_pos (t : List UInt8) (h : dottedL t = true) : 0 < t.length := by
  cases t with
  | nil => cases h
  | cons c r => simp

theorem append_list (s t : ByteArray) : (s ++ t).data.toList = s.data.toList ++ t.data.toList := by
  rw [ByteArray.data_append, Array.toList_append]

/-- What impl.Atom hands back of it. -/
theorem dotted_res (t z : ByteArray) (h : dottedL t.data.toList = true) (hz : ends z.data.toList = true) : atomRes (t ++ z) true false = true ∧
    mkB ((t ++ z).data.toList.take (runLen true (t ++ z).data.toList)) = t ∧ mkB ((t ++ z).data.toList.drop (runLen true (t ++ z).data.toList)) = z := by
  rw [append_list, dotted_run _ _ h hz]
  refine ⟨?_, by rw [List.take_left, list_mkB], by rw [List.drop_left, list_mkB]⟩
  unfold atomRes
  rw [append_list, dotted_run _ _ h hz, List.take_left, dotBad_dotted _ h, decide_eq_true (dotted_pos _ h)]
  rfl
end Go.Proofs.YtolbedmmjennoaaDoor
