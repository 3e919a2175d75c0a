/- made: the walk. -/
import Derived.Test.YtolbedmmjennoaaDoorPlain
import Derived.Test.YtolbedmmjennoaaDoorDotLaw
import Derived.Test.YtolbedmmjennoaaDoorFind
namespace Go.Proofs.YtolbedmmjennoaaDoor
open Go.RowKit

/-- The block of an address that made hands back. -/
def RAt (b : Nat) (x y : ByteArray) (w : World) : Prop := w.heap[b]? = some (.cells #[.string x, .string y] 23 (0, 0))
theorem RAt.cell0 {b : Nat} {x y : ByteArray} {w : World} (h : RAt b x y w) : w.cell? ⟨b, 0, none⟩ = some (.string x) := by
  unfold RAt at h; simp [World.cell?, h]
theorem RAt.cell1 {b : Nat} {x y : ByteArray} {w : World} (h : RAt b x y w) : w.cell? ⟨b, 1, none⟩ = some (.string y) := by
  unfold RAt at h; simp [World.cell?, h]
theorem RAt.free0 {b : Nat} {x y : ByteArray} {w : World} (h : RAt b x y w) : w.frozen? ⟨b, 0, none⟩ = false := by
  unfold RAt at h; simp [World.frozen?, h]
theorem RAt.free1 {b : Nat} {x y : ByteArray} {w : World} (h : RAt b x y w) : w.frozen? ⟨b, 1, none⟩ = false := by
  unfold RAt at h; simp [World.frozen?, h]
theorem RAt.lt {b : Nat} {x y : ByteArray} {w : World} (h : RAt b x y w) : b < w.heap.size := (Array.getElem?_eq_some_iff.1 h).1
theorem RAt.below {B b : Nat} {x y : ByteArray} {w w' : World} (h : RAt b x y w) (k : Below B w w') (hb : b < B) : RAt b x y w' := (k.block b hb).trans h
theorem RAt.made (w : World) (x y : ByteArray) : RAt w.heap.size x y (w.alloc (.cells #[.string x, .string y] 23)) := heap_alloc_new w _

theorem RAt.put0 {b : Nat} {x y : ByteArray} {w : World} (h : RAt b x y w) (t : ByteArray) : RAt b t y (w.setCell ⟨b, 0, none⟩ (.string t)) := by
  unfold RAt at h ⊢; simp [World.setCell, Array.getElem?_modify, h]
theorem RAt.put1 {b : Nat} {x y : ByteArray} {w : World} (h : RAt b x y w) (t : ByteArray) : RAt b x t (w.setCell ⟨b, 1, none⟩ (.string t)) := by
  unfold RAt at h ⊢; simp [World.setCell, Array.getElem?_modify, h]

theorem aggAddress : (Tryd.prog.info? 23).map (·.size) = some 2 := by kernel_rfl

/-- What made's results are read as. -/
theorem made_results (tmps : Array Value) (b : Nat) (x y : ByteArray) (ok : Bool) (w : World) (h : RAt b x y w) (h6 : tmps.getD 6 undef = .pointer (some ⟨b, 0, none⟩)) (h7 : tmps.getD 7 undef = .bool ok) :
    (results Tryd.f6 tmps).run Tryd.prog w = .ok (.tuple #[.agg #[.string x, .string y], .bool ok]) w := by
  rw [results_cell_tmp (p := 6) (u := 7) (ty := 23) (by kernel_rfl), h6, h7]
  simp only [asAddr, Sem.run_pure, Result.andThen]
  rw [run_loadVar_row w b 23 23 #[.string x, .string y] (0, 0) _ h Tryd.underlying23 rfl aggAddress]

/-- What made hands back: an address, or that there is none. -/
def MadeOut (n l d : ByteArray) (w : World) (e : Ending) (w' : World) : Prop :=
  Below w.heap.size w w' ∧
  ((Lib.validD n.data.toList = true ∧ dottedL l.data.toList = true ∧ dottedL d.data.toList = true ∧ n.size + l.size + d.size ≤ 4096 ∧ e = .returned (.tuple #[.agg #[.string n, .string (l ++ ⟨#[64]⟩ ++ d)], .bool true])) ∨
   (∃ x y : ByteArray, e = .returned (.tuple #[.agg #[.string x, .string y], .bool false])))

set_option maxHeartbeats 2000000 in
theorem made_any (n l d : ByteArray) (w : World) (hn : n.size ≤ 2147483647) (hl : l.size ≤ 2147483647) (hd : d.size ≤ 2147483647) (hT : Lib.Utf8Tabs 0 1 w) :
    Calls Tryd.prog 6 #[.string n, .string l, .string d] w (MadeOut n l d w) := by
  go_enter Tryd.func6, Tryd.ntmps6
  go_wp2_with fail
  go_loopw [11] (fun iv wr => ∃ k : Nat, k ≤ n.size ∧ iv = .int .i64 k ∧ Below w.heap.size w wr ∧ RAt w.heap.size ⟨#[]⟩ ⟨#[]⟩ wr) (fun iv _ => n.size - (intOf iv).toNat)
  case atStart => exact ⟨0, Nat.zero_le _, rfl, (Below.refl w.heap.size w).alloc (Nat.le_refl _) _, RAt.made w _ _⟩
  case round =>
    obtain ⟨k, hk, rfl, hb, hR⟩ := hrel
    by_cases hlt : k < n.size
    · have hz : (k : Int) < (n.size : Int) := by omega
      by_cases h92 : n[k].toNat = 92
      · have g1 : ((n[k].toNat : Int) == 92) = true := beq_iff_eq.2 (by omega)
        go_wp2_with fail
        refine (plain_any n wr (by omega)).mono ?_
        rintro e w1 ⟨rfl, rfl⟩
        cases hpl : plainL n.data.toList with
        | false =>
          have c0 := hR.cell0
          have c1 := hR.cell1
          have f0 := hR.free0
          have f1 := hR.free1
          clear hpl
          have hfin := (hR.put0 ⟨#[]⟩).put1 ⟨#[]⟩
          have hbfin := (hb.setCell (p := ⟨w.heap.size, 0, none⟩) (Nat.le_refl _) (.string ⟨#[]⟩)).setCell (p := ⟨w.heap.size, 1, none⟩) (Nat.le_refl _) (.string ⟨#[]⟩)
          go_wp2_with fail
          exact bodyPost_ret (made_results _ w.heap.size _ _ false _ hfin rfl rfl) rfl ⟨hbfin, .inr ⟨_, _, rfl⟩⟩
        | true =>
          clear hpl
          go_wp2_with fail
          go_roundw
          case rel => exact ⟨k + 1, hlt, by go_num, hb, hR⟩
          case measure => simp [intOf]; omega
      · have g1 : ((n[k].toNat : Int) == 92) = false := beq_eq_false_iff_ne.2 (by omega)
        go_wp2_with fail
        go_roundw
        case rel => exact ⟨k + 1, hlt, by go_num, hb, hR⟩
        case measure => simp [intOf]; omega
    · have hz : ¬ (k : Int) < (n.size : Int) := by omega
      go_wp2_with fail
      refine (validString_any n wr (by omega) (utf8_below hT hb)).mono ?_
      rintro e w1 ⟨rfl, hb1⟩
      have hR1 := hR.below hb1 hR.lt
      have hb1 := hb.trans (hb1.mono hb.size)
      cases hv : Lib.validD n.data.toList with
      | false =>
        have c0 := hR1.cell0
        have c1 := hR1.cell1
        have f0 := hR1.free0
        have f1 := hR1.free1
        clear hv
        have hfin := (hR1.put0 ⟨#[]⟩).put1 ⟨#[]⟩
        have hbfin := (hb1.setCell (p := ⟨w.heap.size, 0, none⟩) (Nat.le_refl _) (.string ⟨#[]⟩)).setCell (p := ⟨w.heap.size, 1, none⟩) (Nat.le_refl _) (.string ⟨#[]⟩)
        go_wp2_with fail
        exact bodyPost_ret (made_results _ w.heap.size _ _ false _ hfin rfl rfl) rfl ⟨hbfin, .inr ⟨_, _, rfl⟩⟩
      | true =>
        have Hv := hidF hv
        clear hv
        go_wp2_with fail
        refine (dotted_any l w1 (by omega)).mono ?_
        rintro e w2 ⟨rfl, hb2⟩
        have hR2 := hR1.below hb2 hR1.lt
        have hb2 := hb1.trans (hb2.mono hb1.size)
        cases hdl : dottedL l.data.toList with
        | false =>
          have c0 := hR2.cell0
          have c1 := hR2.cell1
          have f0 := hR2.free0
          have f1 := hR2.free1
          clear hdl
          have hfin := (hR2.put0 ⟨#[]⟩).put1 ⟨#[]⟩
          have hbfin := (hb2.setCell (p := ⟨w.heap.size, 0, none⟩) (Nat.le_refl _) (.string ⟨#[]⟩)).setCell (p := ⟨w.heap.size, 1, none⟩) (Nat.le_refl _) (.string ⟨#[]⟩)
          go_wp2_with fail
          exact bodyPost_ret (made_results _ w.heap.size _ _ false _ hfin rfl rfl) rfl ⟨hbfin, .inr ⟨_, _, rfl⟩⟩
        | true =>
          have Hdl := hidF hdl
          clear hdl
          go_wp2_with fail
          refine (dotted_any d w2 (by omega)).mono ?_
          rintro e w3 ⟨rfl, hb3⟩
          have hR3 := hR2.below hb3 hR2.lt
          have hb3 := hb2.trans (hb3.mono hb2.size)
          have c0 := hR3.cell0
          have c1 := hR3.cell1
          have f0 := hR3.free0
          have f1 := hR3.free1
          cases hdd : dottedL d.data.toList with
          | false =>
            clear hdd
            have hfin := (hR3.put0 ⟨#[]⟩).put1 ⟨#[]⟩
            have hbfin := (hb3.setCell (p := ⟨w.heap.size, 0, none⟩) (Nat.le_refl _) (.string ⟨#[]⟩)).setCell (p := ⟨w.heap.size, 1, none⟩) (Nat.le_refl _) (.string ⟨#[]⟩)
            go_wp2_with fail
            exact bodyPost_ret (made_results _ w.heap.size _ _ false _ hfin rfl rfl) rfl ⟨hbfin, .inr ⟨_, _, rfl⟩⟩
          | true =>
            have Hdd := hidF hdd
            clear hdd
            by_cases hsum : 4096 < n.size + l.size + d.size
            · have g1 : (4096 : Int) < (n.size : Int) + (l.size : Int) + (d.size : Int) := by omega
              have hfin := (hR3.put0 ⟨#[]⟩).put1 ⟨#[]⟩
              have hbfin := (hb3.setCell (p := ⟨w.heap.size, 0, none⟩) (Nat.le_refl _) (.string ⟨#[]⟩)).setCell (p := ⟨w.heap.size, 1, none⟩) (Nat.le_refl _) (.string ⟨#[]⟩)
              go_wp2_with fail
              exact bodyPost_ret (made_results _ w.heap.size _ _ false _ hfin rfl rfl) rfl ⟨hbfin, .inr ⟨_, _, rfl⟩⟩
            · have g1 : ¬ (4096 : Int) < (n.size : Int) + (l.size : Int) + (d.size : Int) := by omega
              have n1 : ¬ 9223372036854775807 < l.size + 1 := by omega
              have n2 : ¬ 9223372036854775807 < l.size + 1 + d.size := by omega
              have hfin := (hR3.put0 n).put1 (l ++ ⟨#[64]⟩ ++ d)
              have hbfin := (hb3.setCell (p := ⟨w.heap.size, 0, none⟩) (Nat.le_refl _) (.string n)).setCell (p := ⟨w.heap.size, 1, none⟩) (Nat.le_refl _) (.string (l ++ ⟨#[64]⟩ ++ d))
              go_wp2_with fail
              exact bodyPost_ret (made_results _ w.heap.size _ _ true _ hfin rfl rfl) rfl ⟨hbfin, .inl ⟨Hv.out, Hdl.out, Hdd.out, by omega, rfl⟩⟩
end Go.Proofs.YtolbedmmjennoaaDoor
