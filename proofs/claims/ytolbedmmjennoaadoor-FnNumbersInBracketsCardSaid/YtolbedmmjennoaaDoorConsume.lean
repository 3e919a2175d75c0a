/- consume: the walk. -/
import Derived.Test.YtolbedmmjennoaaDoorPrs
namespace Go.Proofs.YtolbedmmjennoaaDoor
open Go.RowKit

/-- The text without its first byte. -/
def tailB (s : ByteArray) : ByteArray := mkB s.data.toList.tail
theorem from_one (s : ByteArray) : s.extract 1 s.size = tailB s := by rw [from_mkB, tailB, List.drop_one]
theorem tailB_list (s : ByteArray) : (tailB s).data.toList = s.data.toList.tail := mkB_list _
theorem trimB_list (s : ByteArray) : (trimB s).data.toList = trimL s.data.toList := mkB_list _
theorem tailB_size (s : ByteArray) : (tailB s).size = s.size - 1 := by rw [tailB, size_mkB, List.length_tail, Array.length_toList]; rfl

set_option maxHeartbeats 400000 in
theorem consume_yes (b : Nat) (s : ByteArray) (c : Int) (w : World) (hP : PAt b s w) (h0 : 0 < s.size) (hc : ((s[0]'h0).toNat : Int) = c) :
    Calls Tryd.prog 37 #[.pointer (some ⟨b, 0, none⟩), .int .u8 c] w fun e w' => e = .returned (.bool true) ∧ w.setCell ⟨b, 0, none⟩ (.string (tailB s)) = w' := by
  have hcell := hP.cell
  have hfree := hP.free
  have hne : ((s.size : Int) == 0) = false := beq_eq_false_iff_ne.2 (by omega)
  have hx := hidF (from_one s)
  subst hc
  have hb : ((((s[0]'h0).toNat : Int)) != ((s[0]'h0).toNat : Int)) = false := by simp
  go_enter Tryd.func37, Tryd.ntmps37
  go_wp2
  go_ret
  rw [hx.out]
  exact ⟨rfl, rfl⟩

set_option maxHeartbeats 400000 in
theorem consume_no (b : Nat) (s : ByteArray) (c : Int) (w : World) (hP : PAt b s w) (hc : ∀ h0 : 0 < s.size, ((s[0]'h0).toNat : Int) ≠ c) :
    Calls Tryd.prog 37 #[.pointer (some ⟨b, 0, none⟩), .int .u8 c] w fun e w' => e = .returned (.bool false) ∧ w = w' := by
  have hcell := hP.cell
  by_cases h0 : 0 < s.size
  · have hne : ((s.size : Int) == 0) = false := beq_eq_false_iff_ne.2 (by omega)
    have hb : ((((s[0]'h0).toNat : Int)) != c) = true := by simpa using hc h0
    clear hc
    go_enter Tryd.func37, Tryd.ntmps37
    go_wp2
    go_ret
    exact ⟨rfl, rfl⟩
  · have hne : ((s.size : Int) == 0) = true := beq_iff_eq.2 (by omega)
    clear hc
    go_enter Tryd.func37, Tryd.ntmps37
    go_wp2
    go_ret
    exact ⟨rfl, rfl⟩


end Go.Proofs.YtolbedmmjennoaaDoor
