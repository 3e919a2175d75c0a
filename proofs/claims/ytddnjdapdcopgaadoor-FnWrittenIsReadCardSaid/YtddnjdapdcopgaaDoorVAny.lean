/- validHeaderFieldByte of any byte: some truth value. -/
import Derived.Test.YtddnjdapdcopgaaDoorValid
namespace Go.Proofs.YtddnjdapdcopgaaDoor
open Go.RowKit

set_option maxHeartbeats 4000000 in
theorem valid_any (c : UInt8) (w : World) :
    Calls Tryd.prog 38 #[.int .u8 (c.toNat : Int)] w fun e w' => (∃ b, e = .returned (.bool b)) ∧ w = w' := by
  have hc := c.toNat_lt
  obtain ⟨n, hn⟩ : ∃ n, n = c.toNat := ⟨_, rfl⟩
  rw [← hn] at hc ⊢
  clear hn
  obtain ⟨m, x1⟩ : ∃ m : Nat, ((n : Int) - 64) % 256 = (m : Int) := ⟨(((n : Int) - 64) % 256).toNat, by omega⟩
  go_enter Tryd.func38, Tryd.ntmps38
  go_wp2
  go_ret
  exact ⟨⟨_, rfl⟩, rfl⟩
end Go.Proofs.YtddnjdapdcopgaaDoor
