/- What parseIPv4Fields takes, plainly: a text of four numbers with points between them. -/
import Derived.Test.YtolbedmmjennoaaDoorNums
namespace Go.Proofs.YtolbedmmjennoaaDoor

def digB (c : UInt8) : Bool := decide (48 ≤ c.toNat) && decide (c.toNat ≤ 57)

/-- No error comes of the rest of a text: val, dig: the number so far and its digits; pos: how many numbers stand ahead. -/
def scan : List UInt8 → Nat → Nat → Nat → Bool
  | [], _, _, pos => pos == 3
  | c :: r, val, dig, pos =>
    if digB c then !(dig == 1 && val == 0) && (decide (val * 10 + (c.toNat - 48) ≤ 255) && scan r (val * 10 + (c.toNat - 48)) (dig + 1) pos)
    else (c == 46 && (decide (0 < dig) && (!r.isEmpty && decide (pos < 3)))) && scan r 0 0 (pos + 1)

theorem scan_dig (k : Nat) (h : k < 10) (r : List UInt8) (val dig pos : Nat) (h1 : ¬ (dig = 1 ∧ val = 0)) (h2 : val * 10 + k ≤ 255) : scan (digitC k :: r) val dig pos = scan r (val * 10 + k) (dig + 1) pos := by
  have e : (digitC k).toNat = 48 + k := digitC_nat k h
  have ed : digB (digitC k) = true := by simp [digB, e]; omega
  have e2 : 48 + k - 48 = k := by omega
  have e3 : (dig == 1 && val == 0) = false := by
    rw [Bool.eq_false_iff]
    simp
    omega
  rw [scan, if_pos ed, e, e2, e3]
  simp [h2]

theorem scan_num (a : UInt8) (r : List UInt8) (pos : Nat) : ∃ dig, 1 ≤ dig ∧ scan (numL a ++ r) 0 0 pos = scan r a.toNat dig pos := by
  have ha := a.toNat_lt
  unfold numL
  by_cases h1 : 99 < a.toNat
  · refine ⟨3, by omega, ?_⟩
    rw [if_pos h1, if_pos (by omega)]
    simp only [List.cons_append, List.nil_append]
    rw [scan_dig _ (by omega) _ _ _ _ (by omega) (by omega), scan_dig _ (by omega) _ _ _ _ (by omega) (by omega), scan_dig _ (by omega) _ _ _ _ (by omega) (by omega)]
    congr 1
    omega
  · by_cases h2 : 9 < a.toNat
    · refine ⟨2, by omega, ?_⟩
      rw [if_neg h1, if_pos h2]
      simp only [List.cons_append, List.nil_append]
      rw [scan_dig _ (by omega) _ _ _ _ (by omega) (by omega), scan_dig _ (by omega) _ _ _ _ (by omega) (by omega)]
      congr 1
      omega
    · refine ⟨1, by omega, ?_⟩
      rw [if_neg h1, if_neg h2]
      simp only [List.cons_append, List.nil_append]
      rw [scan_dig _ (by omega) _ _ _ _ (by omega) (by omega)]
      congr 1
      omega

theorem scan_point (r : List UInt8) (val dig pos : Nat) (h1 : 1 ≤ dig) (h2 : r ≠ []) (h3 : pos < 3) : scan (46 :: r) val dig pos = scan r 0 0 (pos + 1) := by
  have e : digB 46 = false := by decide
  have e2 : r.isEmpty = false := by cases r <;> simp_all
  have e3 : 0 < dig := h1
  rw [scan, if_neg (by rw [e]; simp), e2]
  simp [e3, h3]

theorem numL_ne (x : UInt8) (r : List UInt8) : numL x ++ r ≠ [] := by
  unfold numL
  simp

theorem scan_nums (a b c d : UInt8) : scan (numsL a b c d) 0 0 0 = true := by
  unfold numsL
  obtain ⟨d1, h1, e1⟩ := scan_num a (46 :: (numL b ++ 46 :: (numL c ++ 46 :: numL d))) 0
  rw [e1, scan_point _ _ _ _ h1 (numL_ne _ _) (by omega)]
  obtain ⟨d2, h2, e2⟩ := scan_num b (46 :: (numL c ++ 46 :: numL d)) 1
  rw [e2, scan_point _ _ _ _ h2 (numL_ne _ _) (by omega)]
  obtain ⟨d3, h3, e3⟩ := scan_num c (46 :: numL d) 2
  have hd : numL d ≠ [] := by have := numL_ne d []; simpa using this
  rw [e3, scan_point _ _ _ _ h3 hd (by omega)]
  obtain ⟨d4, h4, e4⟩ := scan_num d [] 3
  rw [List.append_nil] at e4
  rw [e4]
  rfl

theorem numL_len (x : UInt8) : (numL x).length ≤ 3 := by
  unfold numL
  split <;> split <;> simp

theorem numsL_len (a b c d : UInt8) : (numsL a b c d).length ≤ 15 := by
  have := numL_len a
  have := numL_len b
  have := numL_len c
  have := numL_len d
  unfold numsL
  simp only [List.length_append, List.length_cons]
  omega
end Go.Proofs.YtolbedmmjennoaaDoor
