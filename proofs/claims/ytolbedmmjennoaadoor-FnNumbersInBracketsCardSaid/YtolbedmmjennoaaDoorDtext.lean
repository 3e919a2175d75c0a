/- isDtext: the walk. -/
import Derived.Test.YtolbedmmjennoaaDoorRunes
import Derived.Test.YtolbedmmjennoaaDoorNums
namespace Go.Proofs.YtolbedmmjennoaaDoor
open Go.RowKit

theorem isDtext_num (c : UInt8) (h : numC c) (w : World) :
    Calls Tryd.prog 42 #[.int .i32 (c.toNat : Int)] w fun e w' => e = .returned (.bool true) ∧ w = w' := by
  have hn : c.toNat ≠ 91 ∧ c.toNat ≠ 93 ∧ c.toNat ≠ 92 ∧ 33 ≤ c.toNat ∧ c.toNat ≤ 126 := by
    rcases h with h | h
    · omega
    · rw [h]; decide
  have e1 : ((c.toNat : Int) == 91) = false := beq_eq_false_iff_ne.2 (by omega)
  have e2 : ((c.toNat : Int) == 93) = false := beq_eq_false_iff_ne.2 (by omega)
  have e3 : ((c.toNat : Int) == 92) = false := beq_eq_false_iff_ne.2 (by omega)
  have hv : vcharI (c.toNat : Int) = true := by simp [vcharI]; omega
  have hcall := hidF (isVchar_any (c.toNat : Int) w)
  rw [hv] at hcall
  clear hn h hv
  go_enter Tryd.func42, Tryd.ntmps42
  go_wp2_with fail
  refine hcall.out.mono ?_
  rintro e w1 ⟨rfl, rfl⟩
  go_wp2_with fail
  go_ret
  exact ⟨rfl, rfl⟩
end Go.Proofs.YtolbedmmjennoaaDoor
