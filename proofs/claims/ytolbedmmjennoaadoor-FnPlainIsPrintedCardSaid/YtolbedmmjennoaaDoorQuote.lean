/- quoteString over texts of UTF-8 without control characters: the walk. -/
import Derived.Test.YtolbedmmjennoaaDoorQuoteText
import Derived.Test.YtolbedmmjennoaaDoorQuoted
import Derived.Test.YtolbedmmjennoaaDoorBldRune
namespace Go.Proofs.YtolbedmmjennoaaDoor
open Go.RowKit

set_option maxHeartbeats 4000000 in
set_option maxRecDepth 100000 in
theorem quoteString_any (s : ByteArray) (w : World) (hs : s.size ≤ 1000000000) (hv : Lib.validD s.data.toList = true) (hctl : ∀ c ∈ s.data.toList, noCtl c) :
    Calls Tryd.prog 20 #[.string s] w fun e w' => ∃ q : List UInt8, e = .returned (.string (mkB (34 :: (q ++ [34])))) ∧ (Esc s.data.toList q ∧ ((∀ c ∈ s.data.toList, c ≠ 34 ∧ c ≠ 92) → q = s.data.toList)) ∧ q.length ≤ 2 * s.size ∧ Below w.heap.size w w' := by
  have Hsl := hidF (size_of_list s)
  have Hctl := hidF hctl
  have Hv := hidF hv
  clear hctl hv
  go_enter Tryd.func20, Tryd.ntmps20
  go_wp2_with fail
  refine (WriteByte_k w.heap.size w.heap.size [] 34 _ (Lib.IsBuilderF.of (Lib.fresh_isBuilder 63 5 w)) (by simp) (by simp)).mono ?_
  rintro e w1 ⟨rfl, hB1, hb1, hk1⟩
  have hbw1 := ((Below.refl w.heap.size w).alloc (Nat.le_refl _) (.cells #[.pointer none, .slice none 0 0] 63)).trans hb1
  have hlt1 : w.heap.size < w1.heap.size := hB1.lt
  go_wp2_with fail
  go_loopw [] (fun wr => ∃ (k : Nat) (q : List UInt8), k ≤ s.size ∧ wr.heap[w1.heap.size]? = some (.stringIter s k) ∧ Lib.IsBuilderF 63 5 w.heap.size w.heap.size (Lib.byteCells (34 :: q)) wr ∧ Below w.heap.size w wr ∧ Hid (Esc (s.data.toList.take k) q ∧ ((∀ c ∈ s.data.toList, c ≠ 34 ∧ c ≠ 92) → q = s.data.toList.take k)) ∧ Hid (Lib.validD (s.data.toList.drop k) = true) ∧ q.length ≤ 2 * k) (fun wr => s.size - wr.iterPos w1.heap.size)
  case atStart =>
    refine ⟨0, [], Nat.zero_le _, World.iter_heap w1 s 0, Lib.IsBuilderF.alloc (.inr hB1) _, hbw1.alloc (by omega) _, ⟨Esc.nil, fun _ => rfl⟩, by rw [List.drop_zero]; exact Hv, Nat.le_refl _⟩
  case round =>
    obtain ⟨k, q, hk, hit, hIB, hbw, hE, hvk, hql⟩ := hrel
    have hsz : w1.heap.size < wr.heap.size := (Array.getElem?_eq_some_iff.1 hit).1
    by_cases hp : k < s.size
    · have hnx : ∀ ty, (Instr.next (.pointer (some ⟨w1.heap.size, 0, none⟩)) true ty).run Tryd.prog wr = _ := fun ty => Lib.run_next_any_at wr w1.heap.size s k ty hit hp
      obtain ⟨r, sz, hd, h1, h2, h3, h4, h5, h6⟩ := quote_run s.data.toList k q hE.out.1 hvk.out (by rw [drop_cons s k hp]; simp) Hctl.out
      rw [Lib.decodeL_drop] at hd
      rw [hd] at hnx
      dsimp only at hnx
      have hks : k + sz ≤ s.size := by rw [Hsl.out]; exact h2
      have hit2 := Lib.iterAt_heap wr w1.heap.size s k (k + sz) hit
      have hbw2 := Lib.below_iterAt hbw (k := w1.heap.size) (by omega) s (k + sz)
      have hsz2 : (wr.iterAt w1.heap.size s (k + sz)).heap.size = wr.heap.size := Lib.iterAt_size _ _ _ _
      have hIB2 := Lib.IsBuilderF.iterAt hIB hit (k + sz)
      have hlent : ((s.data.toList.drop k).take sz).length = sz := by rw [List.length_take, List.length_drop, ← Hsl.out]; omega
      have Hlent := hidF hlent
      have hcells := hidF h5
      have H3 := hidF h3
      have Hit := hidF hit
      clear hd h2 h3 h5 hlent hit hvk
      have hqk := hE.out.2
      clear hE
      rcases h6 with ⟨g1, g2, g3, g4, g5⟩ | ⟨g1, g4⟩
      · have hqt := hidF (isQtext_any (r : Int) (wr.iterAt w1.heap.size s (k + sz)))
        have hws := hidF (isWSP_any (r : Int) (wr.iterAt w1.heap.size s (k + sz)))
        have hvc := hidF (isVchar_any (r : Int) (wr.iterAt w1.heap.size s (k + sz)))
        rw [g1] at hqt
        rw [g2] at hws
        rw [g3] at hvc
        have G4 := hidF (show Esc (s.data.toList.take (k + sz)) (q ++ 92 :: (s.data.toList.drop k).take sz) ∧ ((∀ c ∈ s.data.toList, c ≠ 34 ∧ c ≠ 92) → q ++ 92 :: (s.data.toList.drop k).take sz = s.data.toList.take (k + sz)) from ⟨g4, fun hno => by
          obtain ⟨c, hc, h⟩ := g5
          exact absurd h (not_or.2 (hno c hc))⟩)
        clear g1 g2 g3 g4 g5 hqk
        go_wp2_with fail
        refine hqt.out.mono ?_
        rintro e w3 ⟨rfl, rfl⟩
        go_wp2_with fail
        refine hws.out.mono ?_
        rintro e w3 ⟨rfl, rfl⟩
        go_wp2_with fail
        refine hvc.out.mono ?_
        rintro e w3 ⟨rfl, rfl⟩
        clear hqt hws hvc
        go_wp2_with fail
        refine (WriteByte_k w.heap.size w.heap.size _ 92 _ hIB2 (by rw [Lib.byteCells_length]; simp; omega) (by omega)).mono ?_
        rintro e w4 ⟨rfl, hB4, hb4, hk4⟩
        have hit4 := hk4.iter hit2 (by omega)
        have hbw4 := hbw2.trans hb4
        have hsz4 := hb4.size
        rw [show Lib.byteCells (34 :: q) ++ [.int .u8 92] = Lib.byteCells (34 :: (q ++ [92])) from by rw [← List.cons_append, Lib.byteCells_append]; rfl] at hB4
        go_wp2_with fail
        refine (WriteRune_k w.heap.size w.heap.size _ (r : Int) (by omega) (by omega) _ (.inr hB4) (by rw [Lib.byteCells_length]; simp; omega) (by omega)).mono ?_
        rintro e w5 ⟨rfl, hB5, hb5, hk5⟩
        have hit5 := hk5.iter hit4 (by omega)
        have hbw5 := hbw4.trans hb5
        rw [hcells.out, ← Lib.byteCells_append, show 34 :: (q ++ [92]) ++ (s.data.toList.drop k).take sz = 34 :: (q ++ 92 :: (s.data.toList.drop k).take sz) from by simp] at hB5
        have HB5 := hidF hB5
        clear hB5 hB4 hk4 hk5 hIB hIB2
        go_wp2_with fail
        go_roundw
        case rel => exact ⟨k + sz, _, hks, hit5, .inr HB5.out, hbw5, G4.out, H3.out, by simp [Hlent.out]; omega⟩
        case measure =>
          simp only [World.iterPos, hit5, Hit.out]
          omega
      · have hqt := hidF (isQtext_any (r : Int) (wr.iterAt w1.heap.size s (k + sz)))
        have hws := hidF (isWSP_any (r : Int) (wr.iterAt w1.heap.size s (k + sz)))
        have G4 := hidF (show Esc (s.data.toList.take (k + sz)) (q ++ (s.data.toList.drop k).take sz) ∧ ((∀ c ∈ s.data.toList, c ≠ 34 ∧ c ≠ 92) → q ++ (s.data.toList.drop k).take sz = s.data.toList.take (k + sz)) from ⟨g4, fun hno => by rw [take_plus, hqk hno]⟩)
        clear g4 hqk
        cases hq : qtextI (r : Int) with
        | true =>
          rw [hq] at hqt
          clear g1 hq hws
          go_wp2_with fail
          refine hqt.out.mono ?_
          rintro e w3 ⟨rfl, rfl⟩
          clear hqt
          go_wp2_with fail
          refine (WriteRune_k w.heap.size w.heap.size _ (r : Int) (by omega) (by omega) _ hIB2 (by rw [Lib.byteCells_length]; simp; omega) (by omega)).mono ?_
          rintro e w5 ⟨rfl, hB5, hb5, hk5⟩
          have hit5 := hk5.iter hit2 (by omega)
          have hbw5 := hbw2.trans hb5
          rw [hcells.out, ← Lib.byteCells_append, show 34 :: q ++ (s.data.toList.drop k).take sz = 34 :: (q ++ (s.data.toList.drop k).take sz) from by simp] at hB5
          have HB5 := hidF hB5
          clear hB5 hk5 hIB hIB2
          go_wp2_with fail
          go_roundw
          case rel => exact ⟨k + sz, _, hks, hit5, .inr HB5.out, hbw5, G4.out, H3.out, by simp [Hlent.out]; omega⟩
          case measure =>
            simp only [World.iterPos, hit5, Hit.out]
            omega
        | false =>
          rw [hq, Bool.false_or] at g1
          rw [hq] at hqt
          rw [g1] at hws
          clear g1 hq
          go_wp2_with fail
          refine hqt.out.mono ?_
          rintro e w3 ⟨rfl, rfl⟩
          go_wp2_with fail
          refine hws.out.mono ?_
          rintro e w3 ⟨rfl, rfl⟩
          clear hqt hws
          go_wp2_with fail
          refine (WriteRune_k w.heap.size w.heap.size _ (r : Int) (by omega) (by omega) _ hIB2 (by rw [Lib.byteCells_length]; simp; omega) (by omega)).mono ?_
          rintro e w5 ⟨rfl, hB5, hb5, hk5⟩
          have hit5 := hk5.iter hit2 (by omega)
          have hbw5 := hbw2.trans hb5
          rw [hcells.out, ← Lib.byteCells_append, show 34 :: q ++ (s.data.toList.drop k).take sz = 34 :: (q ++ (s.data.toList.drop k).take sz) from by simp] at hB5
          have HB5 := hidF hB5
          clear hB5 hk5 hIB hIB2
          go_wp2_with fail
          go_roundw
          case rel => exact ⟨k + sz, _, hks, hit5, .inr HB5.out, hbw5, G4.out, H3.out, by simp [Hlent.out]; omega⟩
          case measure =>
            simp only [World.iterPos, hit5, Hit.out]
            omega
    · have hnx : ∀ ty, (Instr.next (.pointer (some ⟨w1.heap.size, 0, none⟩)) true ty).run Tryd.prog wr = _ := fun ty => Lib.run_next_end_at wr w1.heap.size s k ty hit hp
      have hks : k = s.size := by omega
      have hfin := hidF (show Esc s.data.toList q ∧ ((∀ c ∈ s.data.toList, c ≠ 34 ∧ c ≠ 92) → q = s.data.toList) by have := hE.out; rw [hks, Hsl.out, List.take_length] at this; exact this)
      clear hE hvk
      go_wp2_with fail
      refine (WriteByte_k w.heap.size w.heap.size _ 34 _ hIB (by rw [Lib.byteCells_length]; simp; omega) (by omega)).mono ?_
      rintro e w4 ⟨rfl, hB4, hb4, hk4⟩
      have hbw4 := hbw.trans hb4
      rw [show Lib.byteCells (34 :: q) ++ [.int .u8 34] = Lib.byteCells (34 :: (q ++ [34])) from by rw [← List.cons_append, Lib.byteCells_append]; rfl] at hB4
      go_wp2_with fail
      refine (Tryd.Builder_String_any_k w.heap.size w.heap.size _ _ (.inr hB4) (by have := hb4.size; omega)).mono ?_
      rintro e w5 ⟨rfl, _, hb5, _⟩
      go_wp2_with fail
      go_ret
      exact ⟨q, rfl, hfin.out, by omega, hbw4.trans hb5⟩

end Go.Proofs.YtolbedmmjennoaaDoor
