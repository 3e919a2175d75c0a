/- Four numbers with points between them, plainly. -/
import Derived.Test.YtolbedmmjennoaaDoorUtf
namespace Go.Proofs.YtolbedmmjennoaaDoor

def digitC (k : Nat) : UInt8 := UInt8.ofNat (48 + k)
/-- A number of a byte. -/
def numL (x : UInt8) : List UInt8 :=
  (if 99 < x.toNat then [digitC (x.toNat / 100)] else []) ++ (if 9 < x.toNat then [digitC (x.toNat / 10 % 10)] else []) ++ [digitC (x.toNat % 10)]
/-- Four of them. -/
def numsL (a b c d : UInt8) : List UInt8 := numL a ++ 46 :: (numL b ++ 46 :: (numL c ++ 46 :: numL d))

/-- A digit or a point. -/
def numC (c : UInt8) : Prop := (48 ≤ c.toNat ∧ c.toNat ≤ 57) ∨ c = 46

theorem digitC_nat (k : Nat) (h : k < 10) : (digitC k).toNat = 48 + k := by
  unfold digitC
  rw [UInt8.toNat_ofNat']
  omega

theorem numL_ok (x : UInt8) : ∀ c ∈ numL x, 48 ≤ c.toNat ∧ c.toNat ≤ 57 := by
  intro c hc
  have hx := x.toNat_lt
  unfold numL at hc
  simp only [List.mem_append] at hc
  rcases hc with (hc | hc) | hc
  · split at hc
    · have : c = digitC (x.toNat / 100) := by simpa using hc
      rw [this, digitC_nat _ (by omega)]; omega
    · simp at hc
  · split at hc
    · have : c = digitC (x.toNat / 10 % 10) := by simpa using hc
      rw [this, digitC_nat _ (by omega)]; omega
    · simp at hc
  · have : c = digitC (x.toNat % 10) := by simpa using hc
    rw [this, digitC_nat _ (by omega)]; omega

theorem numsL_ok (a b c d : UInt8) : ∀ x ∈ numsL a b c d, numC x := by
  intro x hx
  unfold numsL at hx
  simp only [List.mem_append, List.mem_cons] at hx
  rcases hx with h | h | h | h | h | h | h
  · exact .inl (numL_ok a x h)
  · exact .inr h
  · exact .inl (numL_ok b x h)
  · exact .inr h
  · exact .inl (numL_ok c x h)
  · exact .inr h
  · exact .inl (numL_ok d x h)

theorem numC_ascii (c : UInt8) (h : numC c) : c.toNat < 128 := by
  rcases h with h | h
  · omega
  · rw [h]; decide
end Go.Proofs.YtolbedmmjennoaaDoor
