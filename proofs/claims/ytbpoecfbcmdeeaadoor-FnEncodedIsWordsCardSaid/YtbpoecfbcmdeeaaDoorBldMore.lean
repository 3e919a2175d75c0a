/- strings.Builder's Write over this program. (The shelf's proof, turned to this program.) -/
import Derived.Test.YtbpoecfbcmdeeaaDoorBld
import Derived.Test.YtbpoecfbcmdeeaaDoorBytes
namespace Go.Proofs.YtbpoecfbcmdeeaaDoor
open Go.RowKit

theorem copyCheck_kb (B b : Nat) (bs : List Value) (w : World) (h : Lib.IsBuilderF 64 5 B b bs w) :
    Calls Tryd.prog 54 #[.pointer (some ⟨b, 0, none⟩)] w fun e w' => e = .returned (.tuple #[]) ∧ (Lib.BuilderAtF 64 5 B b (.pointer (some ⟨b, 0, none⟩)) bs w' ∧ Below B w w' ∧ Lib.OthersKept 5 (some b) w w' ∧ ∀ a : Addr, a.block ≠ b → w'.cell? a = w.cell? a) := by
  rcases h with h | h
  · refine (copyCheck_fresh b w h.cell0 h.shape h.frozen0).mono ?_
    rintro e w' ⟨rfl, rfl⟩
    exact ⟨rfl, h.used _, (Below.refl B w).setCell (p := ⟨b, 0, none⟩) h.1 _, (Lib.OthersKept.refl _ _ w).setCell ⟨b, 0, none⟩ rfl _, fun a ha => World.cell?_setCell_other _ _ _ _ (fun e => ha (by cases e; rfl))⟩
  · refine (copyCheck_used b w h.cell0).mono ?_
    rintro e w' ⟨rfl, rfl⟩
    exact ⟨rfl, h, Below.refl B _, Lib.OthersKept.refl _ _ _, fun _ _ => rfl⟩

set_option maxHeartbeats 2000000 in
set_option maxRecDepth 100000 in
theorem Write_k (B b g cap : Nat) (bs : List Value) (l : List UInt8) (w : World) (h : Lib.IsBuilderF 64 5 B b bs w) (hlen : bs.length + l.length ≤ 1000000000) (hBw : B ≤ w.heap.size) (hgb : g ≠ b)
    (hc : ∀ j c, l[j]? = some c → w.cell? ⟨g, j, none⟩ = some (.int .u8 (c.toNat : Int))) :
    Calls Tryd.prog 47 #[.pointer (some ⟨b, 0, none⟩), .slice (some ⟨g, 0, none⟩) l.length cap] w fun e w' => e = .returned (.tuple #[.int .i64 l.length, .nilIface]) ∧ (Lib.BuilderAtF 64 5 B b (.pointer (some ⟨b, 0, none⟩)) (bs ++ Lib.byteCells l) w' ∧ Below B w w' ∧ Lib.OthersKept 5 (some b) w w') := by
  obtain ⟨i0, hi, hz0, hz1, hz2⟩ := info_parts infoByte
  have Hc := hidF hc
  clear hc
  go_enter Tryd.func47, Tryd.ntmps47
  go_wp2_with (go_at_call 54; refine (copyCheck_kb B b bs _ h).mono ?_)
  rintro e w1 ⟨rfl, h1, hb1, hk1, hcells⟩
  have Hcells := hidF hcells
  clear hcells
  obtain ⟨hB, v, hbk, hown, hne⟩ := h1
  have c0 : w1.cell? ⟨b, 0, none⟩ = some (.pointer (some ⟨b, 0, none⟩)) := by rw [Lib.cell_of_heap hbk]; rfl
  have c1 : w1.cell? ⟨b, 1, none⟩ = some v := by rw [Lib.cell_of_heap hbk]; rfl
  go_wp2_with (at_builtin; refine wpList_append_ownF _ rfl _ _ 39 rfl B 5 i0 (.int .u8 0) 1 1 Tryd.underlying39 hi hz0 hz1 hz2 rfl (by decide) _ _ _ rfl hown ⟨g, 0, none⟩ l.length cap (Lib.byteCells l) rfl (by simp [Lib.byteCells]) ?c1 ?c2 ?c3 ?c4 ?c5 ?_)
  case c1 =>
    intro j u hj
    have e : (⟨g, 0, none⟩ : Addr).add j = ⟨g, j, none⟩ := by unfold Addr.add; split <;> simp_all
    rw [e, Hcells.out ⟨g, j, none⟩ hgb]
    unfold Lib.byteCells at hj
    rw [List.getElem?_map] at hj
    obtain ⟨c, hjc, rfl⟩ := Option.map_eq_some_iff.1 hj
    exact Hc.out j c hjc
  case c2 =>
    intro u hu
    unfold Lib.byteCells at hu
    obtain ⟨c, _, rfl⟩ := List.mem_map.1 hu
    rfl
  case c3 => unfold maxLen; omega
  case c4 => omega
  case c5 => have := hb1.size; omega
  intro v' w2 hown' hgrow _
  have hlt : b < w1.heap.size := by
    rcases Nat.lt_or_ge b w1.heap.size with h' | h'
    · exact h'
    · simp [Array.getElem?_eq_none h'] at hbk
  have hb2 : w2.heap[b]? = some (.cells #[.pointer (some ⟨b, 0, none⟩), v] 64 (0, 0)) := by
    rw [hgrow.block b hlt (fun e => hne e.symm)]
    exact hbk
  have d0 : w2.cell? ⟨b, 0, none⟩ = some (.pointer (some ⟨b, 0, none⟩)) := by rw [Lib.cell_of_heap hb2]; rfl
  have d1 : w2.cell? ⟨b, 1, none⟩ = some v := by rw [Lib.cell_of_heap hb2]; rfl
  have f1 : w2.frozen? ⟨b, 1, none⟩ = false := Lib.frozen_of_heap hb2 1
  obtain ⟨a', cap', rfl⟩ : ∃ a' cap', v' = .slice a' (bs.length + l.length) cap' := by
    rcases hown'.2 with ⟨rfl, h0⟩ | ⟨g, cap', cur, fz, rfl, _⟩
    · exact ⟨none, 0, by rw [h0]⟩
    · exact ⟨_, _, rfl⟩
  go_wp2
  go_ret2
  refine ⟨rfl, ?_, ?_, (hk1.grown hgrow (Lib.ownsRowF_kind hown)).setCell ⟨b, 1, none⟩ rfl _⟩
  · exact Lib.BuilderAtF.put (T := 64) (e := 5) hB hb2 (bs' := bs ++ Lib.byteCells l) (by simpa [Lib.byteCells] using hown') (by decide)
  · exact (hb1.grown hgrow (by have := hb1.size; omega) (fun k hk => (hown.lt k hk).1)).setCell (p := ⟨b, 1, none⟩) hB _
end Go.Proofs.YtbpoecfbcmdeeaaDoor
