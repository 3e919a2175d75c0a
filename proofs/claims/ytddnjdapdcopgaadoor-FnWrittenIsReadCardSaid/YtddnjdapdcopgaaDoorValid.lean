/- A byte of a name is a byte of a field's name for net/textproto, too: each of them, one by one. -/
import Derived.Test.YtddnjdapdcopgaaDoorHdrText
import Derived.Test.YtddnjdapdcopgaaDoorBase
namespace Go.Proofs.YtddnjdapdcopgaaDoor
open Go.RowKit

set_option maxHeartbeats 1000000 in
theorem valid_a (c : Int) (w : World) (h : c = 45 ∨ c = 48 ∨ c = 49 ∨ c = 50 ∨ c = 51 ∨ c = 52 ∨ c = 53 ∨ c = 54 ∨ c = 55 ∨ c = 56 ∨ c = 57) :
    Calls Tryd.prog 38 #[.int .u8 c] w fun e w' => e = .returned (.bool true) ∧ w = w' := by
  rcases h with rfl | rfl | rfl | rfl | rfl | rfl | rfl | rfl | rfl | rfl | rfl
  all_goals
    go_enter Tryd.func38, Tryd.ntmps38
    go_wp2
    go_ret
    exact ⟨rfl, rfl⟩

set_option maxHeartbeats 1000000 in
theorem valid_b (c : Int) (w : World) (h : c = 65 ∨ c = 66 ∨ c = 67 ∨ c = 68 ∨ c = 69 ∨ c = 70 ∨ c = 71 ∨ c = 72 ∨ c = 73 ∨ c = 74 ∨ c = 75 ∨ c = 76 ∨ c = 77) :
    Calls Tryd.prog 38 #[.int .u8 c] w fun e w' => e = .returned (.bool true) ∧ w = w' := by
  rcases h with rfl | rfl | rfl | rfl | rfl | rfl | rfl | rfl | rfl | rfl | rfl | rfl | rfl
  all_goals
    go_enter Tryd.func38, Tryd.ntmps38
    go_wp2
    go_ret
    exact ⟨rfl, rfl⟩

set_option maxHeartbeats 1000000 in
theorem valid_c (c : Int) (w : World) (h : c = 78 ∨ c = 79 ∨ c = 80 ∨ c = 81 ∨ c = 82 ∨ c = 83 ∨ c = 84 ∨ c = 85 ∨ c = 86 ∨ c = 87 ∨ c = 88 ∨ c = 89 ∨ c = 90) :
    Calls Tryd.prog 38 #[.int .u8 c] w fun e w' => e = .returned (.bool true) ∧ w = w' := by
  rcases h with rfl | rfl | rfl | rfl | rfl | rfl | rfl | rfl | rfl | rfl | rfl | rfl | rfl
  all_goals
    go_enter Tryd.func38, Tryd.ntmps38
    go_wp2
    go_ret
    exact ⟨rfl, rfl⟩

set_option maxHeartbeats 1000000 in
theorem valid_d (c : Int) (w : World) (h : c = 97 ∨ c = 98 ∨ c = 99 ∨ c = 100 ∨ c = 101 ∨ c = 102 ∨ c = 103 ∨ c = 104 ∨ c = 105 ∨ c = 106 ∨ c = 107 ∨ c = 108 ∨ c = 109) :
    Calls Tryd.prog 38 #[.int .u8 c] w fun e w' => e = .returned (.bool true) ∧ w = w' := by
  rcases h with rfl | rfl | rfl | rfl | rfl | rfl | rfl | rfl | rfl | rfl | rfl | rfl | rfl
  all_goals
    go_enter Tryd.func38, Tryd.ntmps38
    go_wp2
    go_ret
    exact ⟨rfl, rfl⟩

set_option maxHeartbeats 1000000 in
theorem valid_e (c : Int) (w : World) (h : c = 110 ∨ c = 111 ∨ c = 112 ∨ c = 113 ∨ c = 114 ∨ c = 115 ∨ c = 116 ∨ c = 117 ∨ c = 118 ∨ c = 119 ∨ c = 120 ∨ c = 121 ∨ c = 122) :
    Calls Tryd.prog 38 #[.int .u8 c] w fun e w' => e = .returned (.bool true) ∧ w = w' := by
  rcases h with rfl | rfl | rfl | rfl | rfl | rfl | rfl | rfl | rfl | rfl | rfl | rfl | rfl
  all_goals
    go_enter Tryd.func38, Tryd.ntmps38
    go_wp2
    go_ret
    exact ⟨rfl, rfl⟩

theorem valid_name (c : UInt8) (w : World) (h : nameC c = true) :
    Calls Tryd.prog 38 #[.int .u8 (c.toNat : Int)] w fun e w' => e = .returned (.bool true) ∧ w = w' := by
  simp only [nameC, Bool.or_eq_true, Bool.and_eq_true, decide_eq_true_eq] at h
  rcases h with ((⟨h1, h2⟩ | ⟨h1, h2⟩) | ⟨h1, h2⟩) | h1
  · exact valid_a _ w (by omega)
  · by_cases h3 : c.toNat < 110
    · exact valid_d _ w (by omega)
    · exact valid_e _ w (by omega)
  · by_cases h3 : c.toNat < 78
    · exact valid_b _ w (by omega)
    · exact valid_c _ w (by omega)
  · exact valid_a _ w (by omega)

end Go.Proofs.YtddnjdapdcopgaaDoor
