/- Atoms, plainly: what is taken of a text as an atom has no point in it. -/
import Derived.Test.YtolbedmmjennoaaDoorAtom
namespace Go.Proofs.YtolbedmmjennoaaDoor

theorem atomC_dot : atomC 46 = false := by decide

theorem runLen_all (dot : Bool) : ∀ (l : List UInt8), ∀ b ∈ l.take (runLen dot l), okC dot b = true
  | [], b, h => by simp at h
  | c :: r, b, h => by
    unfold runLen at h
    by_cases hc : okC dot c = true
    · rw [if_pos hc, List.take_succ_cons] at h
      rcases List.mem_cons.1 h with rfl | h
      · exact hc
      · exact runLen_all dot r b h
    · rw [if_neg hc] at h
      simp at h

theorem hasSub_no (l : List UInt8) (h : ∀ b ∈ l, b ≠ 46) : hasSub [46, 46] l = false := by
  have : indexO [46, 46] l = none := by
    induction l with
    | nil => rfl
    | cons c r ih =>
      have hc : c ≠ 46 := h c (by simp)
      have h1 : (c :: r).take ([46, 46] : List UInt8).length ≠ [46, 46] := by
        intro e
        have := congrArg (·[0]?) e
        simp at this
        exact hc this
      rw [indexO, if_neg h1, ih (fun b hb => h b (by simp [hb]))]
      rfl
  unfold hasSub
  rw [this]; rfl

theorem prefix_no (l : List UInt8) (h : ∀ b ∈ l, b ≠ 46) : Lib.hasPrefix l [46] = false := by
  cases l with
  | nil => rfl
  | cons c r =>
    have hc : c ≠ 46 := h c (by simp)
    show (([46] : List UInt8).isPrefixOf (c :: r)) = false
    simp [List.isPrefixOf, Ne.symm hc]

theorem suffix_no (l : List UInt8) (h : ∀ b ∈ l, b ≠ 46) : Lib.hasSuffix l [46] = false := by
  have := prefix_no l.reverse (fun b hb => h b (List.mem_reverse.1 hb))
  exact this

theorem dotBad_no (l : List UInt8) (h : ∀ b ∈ l, b ≠ 46) : dotBad l = false := by
  unfold dotBad
  rw [hasSub_no l h, prefix_no l h, suffix_no l h]; rfl

theorem atomRes_plain (s : ByteArray) : atomRes s false false = decide (0 < runLen false s.data.toList) := by
  unfold atomRes
  rw [dotBad_no _ (fun b hb e => by
    have := runLen_all false _ b hb
    rw [e] at this
    exact absurd this (by decide))]
  simp
end Go.Proofs.YtolbedmmjennoaaDoor
