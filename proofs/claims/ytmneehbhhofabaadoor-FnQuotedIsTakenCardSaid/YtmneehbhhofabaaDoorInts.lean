/- Slices of integers that came in. -/
import Derived.Test.YtmneehbhhofabaaDoorBase
namespace Go.Proofs.YtmneehbhhofabaaDoor
open Go.RowKit

/-- A slice of integers that came in reads as the list zs. -/
def IntRow (w : World) (ao : Option Addr) (len cap : Nat) (zs : List Int) : Prop :=
  (cap ≤ 9223372036854775807 ∧ len = 0 ∧ zs = []) ∨
  ∃ b off, ao = some ⟨b, off, none⟩ ∧ len ≤ cap ∧ cap ≤ 9223372036854775807 ∧ zs.length = len ∧ (0 < len → b < w.heap.size) ∧ ∀ i z, zs[i]? = some z → w.cell? ⟨b, off + i, none⟩ = some (.int .i64 z)

theorem IntRow.length {w : World} {ao : Option Addr} {len cap : Nat} {zs : List Int} (h : IntRow w ao len cap zs) : zs.length = len := by
  rcases h with ⟨_, h1, h2⟩ | ⟨_, _, _, _, _, h, _⟩
  · rw [h1, h2]; rfl
  · exact h
theorem IntRow.bound {w : World} {ao : Option Addr} {len cap : Nat} {zs : List Int} (h : IntRow w ao len cap zs) : len ≤ 9223372036854775807 := by
  rcases h with ⟨_, h1, _, h2⟩ | ⟨_, _, _, h1, h2, _⟩ <;> omega
theorem IntRow.below {w w' : World} {ao : Option Addr} {len cap : Nat} {zs : List Int} (h : IntRow w ao len cap zs) (k : Below w.heap.size w w') : IntRow w' ao len cap zs := by
  rcases h with h | ⟨b, off, h1, h2, h3, h4, h5, h6⟩
  · exact .inl h
  · refine .inr ⟨b, off, h1, h2, h3, h4, fun h => Nat.lt_of_lt_of_le (h5 h) k.size, fun i z hi => ?_⟩
    have hlt : i < zs.length := (List.getElem?_eq_some_iff.1 hi).1
    rw [k.cell (p := ⟨b, off + i, none⟩) (h5 (by omega))]
    exact h6 i z hi
/-- An element. -/
theorem IntRow.get {w : World} {ao : Option Addr} {len cap : Nat} {zs : List Int} (h : IntRow w ao len cap zs) (k : Nat) (hk : k < len) : ∃ b off z, ao = some ⟨b, off, none⟩ ∧ zs[k]? = some z ∧ w.cell? ⟨b, off + k, none⟩ = some (.int .i64 z) := by
  rcases h with ⟨_, h1, _⟩ | ⟨b, off, h1, _, _, h4, _, h6⟩
  · omega
  · have hz : zs[k]? = some zs[k] := List.getElem?_eq_getElem (by omega)
    exact ⟨b, off, _, h1, hz, h6 k _ hz⟩

theorem intRow_nil (w : World) (ao : Option Addr) : IntRow w ao 0 0 [] := .inl ⟨by omega, rfl, rfl⟩
theorem intRow_some (w : World) (x : Addr) (len cap : Nat) (zs : List Int) (hl : len ≤ cap) (hm : cap ≤ maxLen) (hz : zs.length = cap) (hc : ∀ i, i < zs.length → w.cell? (x.add i) = some (.int .i64 (zs.getD i 0))) :
    IntRow w (some x) len cap (zs.take len) := by
  unfold maxLen at hm
  by_cases h0 : len = 0
  · subst h0; exact .inl ⟨by omega, rfl, rfl⟩
  · obtain ⟨b, off, spot⟩ := x
    have hc0 := hc 0 (by omega)
    have hspot : spot = none := by simpa [Addr.add] using World.cell?_spot hc0
    subst hspot
    have hadd : ∀ i, (⟨b, off, none⟩ : Addr).add i = ⟨b, off + i, none⟩ := fun i => by unfold Addr.add; split <;> simp_all
    refine .inr ⟨b, off, rfl, hl, by omega, by simp; omega, fun _ => ?_, fun i z hi => ?_⟩
    · rw [hadd] at hc0; exact World.block_lt_of_cell? w _ hc0
    · have hlt : i < (zs.take len).length := (List.getElem?_eq_some_iff.1 hi).1
      have hlt2 : i < zs.length := by simp at hlt; omega
      have h1 := hc i hlt2
      rw [hadd] at h1
      rw [h1]
      rw [List.getElem?_take, if_pos (by simp at hlt; omega)] at hi
      simp [List.getD, hi]
end Go.Proofs.YtmneehbhhofabaaDoor
