/- What quoteString writes, plainly. -/
import Derived.Test.YtolbedmmjennoaaDoorQuotedLaw
namespace Go.Proofs.YtolbedmmjennoaaDoor
open Go.Lib

theorem Esc.snocHigh : ∀ (l : List UInt8) {t q : List UInt8}, Esc t q → (∀ b ∈ l, 128 ≤ b.toNat) → Esc (t ++ l) (q ++ l)
  | [], t, q, h, _ => by simpa using h
  | c :: r, t, q, h, ha => by
    have hc := ha c (by simp)
    have h1 := h.snoc c (by intro e; rw [e] at hc; exact absurd hc (by decide)) (by intro e; rw [e] at hc; exact absurd hc (by decide)) ⟨by omega, by omega⟩
    have h2 := Esc.snocHigh r h1 (fun b hb => ha b (by simp [hb]))
    simpa using h2

theorem take_plus (t : List UInt8) (k sz : Nat) : t.take (k + sz) = t.take k ++ (t.drop k).take sz := List.take_add

/-- One rune of the loop. -/
theorem quote_run (t : List UInt8) (k : Nat) (q : List UInt8) (hE : Esc (t.take k) q) (hv : validD (t.drop k) = true) (hne : t.drop k ≠ []) (hctl : ∀ c ∈ t, noCtl c) :
    ∃ r sz : Nat, decodeL (t.drop k) = (r, sz) ∧ 1 ≤ sz ∧ k + sz ≤ t.length ∧ validD (t.drop (k + sz)) = true ∧ r ≤ 1114111 ∧ runeCells (r : Int) = byteCells ((t.drop k).take sz) ∧
      ((qtextI (r : Int) = false ∧ wspI (r : Int) = false ∧ vcharI (r : Int) = true ∧ Esc (t.take (k + sz)) (q ++ 92 :: (t.drop k).take sz) ∧ (∃ c ∈ t, c = 34 ∨ c = 92)) ∨
       ((qtextI (r : Int) || wspI (r : Int)) = true ∧ Esc (t.take (k + sz)) (q ++ (t.drop k).take sz))) := by
  have hs := utf_step _ hne hv
  have henc := encode_decode _ hne hs.1
  have hcells : runeCells ((decodeL (t.drop k)).1 : Int) = byteCells ((t.drop k).take (decodeL (t.drop k)).2) := by rw [← byteCells_encodeRune, henc]
  have hle := decodeL_le _ hne
  rw [List.length_drop] at hle
  have hlen : k < t.length := by
    rcases Nat.lt_or_ge k t.length with h | h
    · exact h
    · exact absurd (List.drop_eq_nil_of_le h) hne
  refine ⟨(decodeL (t.drop k)).1, (decodeL (t.drop k)).2, rfl, decodeL_width _, by omega, by rw [← List.drop_drop]; exact hs.2, decodeL_rune _, hcells, ?_⟩
  rw [take_plus]
  cases hd : t.drop k with
  | nil => exact absurd hd hne
  | cons c r =>
    have hmem : c ∈ t := List.mem_of_mem_drop (show c ∈ t.drop k by rw [hd]; simp)
    have hc3 := hctl c hmem
    by_cases hc : c.toNat < 128
    · rw [decode_ascii_l c r hc]
      by_cases h34 : c = 34
      · subst h34
        exact .inl ⟨rfl, rfl, rfl, hE.snocEsc 34 hc hc3, 34, hmem, .inl rfl⟩
      · by_cases h92 : c = 92
        · subst h92
          exact .inl ⟨rfl, rfl, rfl, hE.snocEsc 92 hc hc3, 92, hmem, .inr rfl⟩
        · exact .inr ⟨qtext_ascii c h34 h92 hc3 hc, hE.snoc c h34 h92 hc3⟩
    · have hh := utf_high c r (by omega) (by rw [← hd]; exact hv)
      have h128 := hh.2.2.2
      refine .inr ⟨?_, Esc.snocHigh _ hE hh.1⟩
      have : qtextI ((decodeL (c :: r)).1 : Int) = true := by
        unfold qtextI
        rw [if_neg (by omega), if_neg (by omega)]
        simp [vcharI]; omega
      rw [this]; rfl
end Go.Proofs.YtolbedmmjennoaaDoor
