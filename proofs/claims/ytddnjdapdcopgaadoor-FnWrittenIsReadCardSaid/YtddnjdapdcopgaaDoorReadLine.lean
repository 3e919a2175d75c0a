/- bufio's ReadLine: the walk. -/
import Derived.Test.YtddnjdapdcopgaaDoorSlice
namespace Go.Proofs.YtddnjdapdcopgaaDoor
open Go.RowKit

/-- What ReadLine hands back: a line, the end, a last line without a line feed, a part of a line. -/
def LineChunk (c : BR) (st : List UInt8) (w : World) (e : Ending) (w' : World) : Prop :=
  Only c.own w w' ∧
   ((∃ a t o bf r wi i lb ls, brk st = some (a, t) ∧ e = .returned (.tuple #[.slice (some ⟨c.F, o, none⟩) (chop a).length (4096 - o), .bool false, .nilIface]) ∧ BufAt c bf r wi i .nilIface lb ls w' ∧ bufQ bf r wi ++ c.data.drop i = t ∧ (bf.drop o).take (chop a).length = chop a ∧ o + (chop a).length ≤ 4096) ∨
    (st = [] ∧ e = .returned (.tuple #[.slice none 0 0, .bool false, eofV c.eof]) ∧ BufQ c [] w') ∨
    (st ≠ [] ∧ brk st = none ∧ st.length ≤ 4096 ∧ e = .returned (.tuple #[.slice (some ⟨c.F, 0, none⟩) st.length 4096, .bool false, .nilIface]) ∧ ∃ bf r wi i lb ls, BufAt c bf r wi i .nilIface lb ls w' ∧ bufQ bf r wi ++ c.data.drop i = [] ∧ (bf.drop 0).take st.length = st) ∨
    (∃ a t bf r wi i lb ls, st = a ++ t ∧ a ≠ [] ∧ a.length ≤ 4096 ∧ 10 ∉ a ∧ (a.getLast? = some 13 → t.head? = some 13) ∧ e = .returned (.tuple #[.slice (some ⟨c.F, 0, none⟩) a.length 4096, .bool true, .nilIface]) ∧ BufAt c bf r wi i .nilIface lb ls w' ∧ bufQ bf r wi ++ c.data.drop i = t ∧ (bf.drop 0).take a.length = a))

theorem take_get {bf a : List UInt8} {o n : Nat} (h : (bf.drop o).take n = a) {j : Nat} (hj : j < n) : bf[o + j]? = a[j]? := by
  rw [← h, List.getElem?_take, if_pos hj, List.getElem?_drop]

theorem take_of {bf a : List UInt8} {o K : Nat} (h : ∀ j, j < K → bf[o + j]? = a[j]?) {n : Nat} (hn : n ≤ K) : (bf.drop o).take n = a.take n := by
  apply List.ext_getElem?
  intro j
  rw [List.getElem?_take, List.getElem?_take]
  by_cases hj : j < n
  · rw [if_pos hj, if_pos hj, List.getElem?_drop, h j (by omega)]
  · rw [if_neg hj, if_neg hj]
theorem chop_take (a : List UInt8) : (chop a).length ≤ a.length ∧ chop a = a.take (chop a).length := by
  unfold chop
  split
  · refine ⟨by rw [List.length_dropLast]; omega, ?_⟩
    rw [List.length_dropLast, List.dropLast_eq_take]
  · exact ⟨Nat.le_refl _, (List.take_of_length_le (Nat.le_refl _)).symm⟩
theorem ret_slice3 {p : Option Addr} {a b c : Nat} {v v2 : Value} (h : a = b) : Ending.returned (.tuple #[.slice p a c, v, v2]) = .returned (.tuple #[.slice p b c, v, v2]) := by rw [h]

set_option maxHeartbeats 8000000 in
set_option maxRecDepth 100000 in
theorem ReadLine_any (c : BR) (st : List UInt8) (w : World) (h : BufQ c st w) :
    Calls Tryd.prog 42 #[.pointer (some ⟨c.R, 0, none⟩)] w (LineChunk c st w) := by
  have hsl := hidF (ReadSlice_any c st w h)
  clear h
  go_enter Tryd.func42, Tryd.ntmps42
  go_wp2_with fail
  refine hsl.out.mono ?_
  rintro e w1 ⟨hO, hcase⟩
  have HO := hidF hO
  clear hsl hO
  rcases hcase with ⟨bf, r, a, t, wi, i, hb, rfl, hB, hst, htk⟩ | ⟨hb, hl4, bf, lb, ls, rfl, hB, htk⟩ | ⟨a, t, i, lb, ls, hsta, hal, hno, hdr, rfl, hB⟩
  · have hfu := hB.fu
    unfold eofV at hfu
    have hne := fun W => eql_nil_err W (.pointer (some c.full))
    have hw1 := hB.rw
    have hw2 := hB.wb
    have HB := hidF hB
    obtain ⟨K, hK⟩ : ∃ K, K = a.length := ⟨_, rfl⟩
    obtain ⟨K1, hK1⟩ : ∃ K1, K1 = K + 1 := ⟨_, rfl⟩
    have q10 := buf_cell hB (show bf[r + K]? = some 10 by rw [take_get htk (by omega), hK, List.getElem?_append_right (Nat.le_refl _), Nat.sub_self]; rfl)
    rw [show (((10 : UInt8).toNat : Nat) : Int) = 10 from rfl] at q10
    have e1 : (K1 : Int) - 1 = (K : Int) := by omega
    have e2 : (K : Int) < (K1 : Int) := by omega
    have e3 : ((K1 : Int) == 0) = false := beq_eq_false_iff_ne.2 (by omega)
    have e4 : IntKind.i64.wrap (K : Int) = (K : Int) := IntWalk.i64_in _ (by omega)
    have e5 : (K1 : Int) ≤ 4096 := by omega
    have ha : ∀ j, j < K → bf[r + j]? = a[j]? := fun j hj => by rw [take_get htk (by omega), List.getElem?_append_left (by omega)]
    have HA := hidF ha
    have Hb := hidF hb
    have Hst := hidF hst
    have HK := hidF (And.intro hK hK1)
    rw [← hK, ← hK1]
    clear hb hst htk hB hK hK1 ha
    have hres : ∀ n, n = (chop a).length → (bf.drop r).take (chop a).length = chop a ∧ r + (chop a).length ≤ 4096 := fun n hn => by
      have h1 := chop_take a
      have h2 := HK.out.1
      exact ⟨by rw [take_of HA.out (by omega)]; exact h1.2.symm, by omega⟩
    have Hres := hidF hres
    clear hres
    by_cases ha0 : a = []
    · obtain rfl : K = 0 := by rw [HK.out.1, ha0]; rfl
      obtain rfl : K1 = 1 := HK.out.2
      rw [Nat.add_zero] at q10
      have hch : (chop a).length = 0 := by rw [ha0]; rfl
      have Hch := hidF hch
      clear ha0 hch
      go_wp2_with fail
      go_ret3
      exact ⟨HO.out, .inl ⟨a, t, r, bf, _, wi, i, 10, -1, Hb.out, ret_slice3 Hch.out.symm, HB.out, Hst.out, (Hres.out 0 Hch.out.symm).1, (Hres.out 0 Hch.out.symm).2⟩⟩
    · obtain ⟨y, hy⟩ : ∃ y, y = a.getLast ha0 := ⟨_, rfl⟩
      have hgl : a.getLast? = some y := by rw [hy, List.getLast?_eq_some_getLast ha0]
      have hp : 0 < a.length := List.length_pos_iff.2 ha0
      obtain ⟨K2, hK2⟩ : ∃ K2, K2 = K - 1 := ⟨_, rfl⟩
      have hk := HK.out
      have qy := buf_cell HB.out (show bf[r + K2]? = some y by rw [HA.out K2 (by omega), ← hgl, List.getLast?_eq_getElem?, ← hk.1, hK2])
      have e6 : (1 : Int) < (K1 : Int) := by omega
      have e7 : (K1 : Int) - 2 = (K2 : Int) := by omega
      have e8 : (K2 : Int) < (K1 : Int) := by omega
      have e9 : IntKind.i64.wrap (K2 : Int) = (K2 : Int) := IntWalk.i64_in _ (by omega)
      have ea : (K2 : Int) ≤ 4096 - (r : Int) := by omega
      have eb : (K : Int) ≤ 4096 - (r : Int) := by omega
      have ec : K2 ≤ 4096 - r := by omega
      have ed : K ≤ 4096 - r := by omega
      have ee : (K2 : Int) ≤ ((4096 - r : Nat) : Int) := by omega
      have ef : (K : Int) ≤ ((4096 - r : Nat) : Int) := by omega
      by_cases hy13 : y = 13
      · have hch : (chop a).length = K2 := by
          unfold chop
          rw [if_pos (by rw [hgl, hy13]), List.length_dropLast]; omega
        have Hch := hidF hch
        have b13 : ((y.toNat : Int) == 13) = true := by rw [hy13]; rfl
        clear ha0 hch hy hgl hp hk hK2 hy13
        go_wp2_with fail
        go_ret3
        exact ⟨HO.out, .inl ⟨a, t, r, bf, _, wi, i, 10, -1, Hb.out, ret_slice3 Hch.out.symm, HB.out, Hst.out, (Hres.out K2 Hch.out.symm).1, (Hres.out K2 Hch.out.symm).2⟩⟩
      · have hch : (chop a).length = K := by
          unfold chop
          rw [if_neg (by rw [hgl]; intro e; exact hy13 (Option.some.inj e))]; exact hk.1.symm
        have Hch := hidF hch
        have b13 : ((y.toNat : Int) == 13) = false := beq_eq_false_iff_ne.2 (fun e => hy13 (UInt8.toNat_inj.1 (by have : (13 : UInt8).toNat = 13 := rfl; omega)))
        clear ha0 hch hy hgl hp hk hK2 hy13
        go_wp2_with fail
        go_ret3
        exact ⟨HO.out, .inl ⟨a, t, r, bf, _, wi, i, 10, -1, Hb.out, ret_slice3 Hch.out.symm, HB.out, Hst.out, (Hres.out K Hch.out.symm).1, (Hres.out K Hch.out.symm).2⟩⟩
  · have hfu := hB.fu
    unfold eofV at hfu ⊢
    have hne := eql_err c.eof c.full hB.eb hB.fb
    rw [decide_eq_false hB.ok.ne] at hne
    have HB := hidF hB
    have Hb := hidF hb
    have Htk := hidF htk
    have hdl : c.data.drop c.data.length = [] := List.drop_length
    have Hdl := hidF hdl
    obtain ⟨n, hn⟩ : ∃ n, n = st.length := ⟨_, rfl⟩
    rw [← hn]
    rw [← hn] at HB hl4
    have HN := hidF hn
    clear hB hb htk hdl hn
    by_cases hs0 : st = []
    · obtain rfl : n = 0 := by rw [HN.out, hs0]; rfl
      have HS0 := hidF hs0
      clear hs0
      go_wp2_with fail
      go_ret3
      exact ⟨HO.out, .inr (.inl ⟨HS0.out, rfl, bf, 0, 0, _, lb, ls, HB.out, by rw [bufQ_nil, Hdl.out]; rfl⟩)⟩
    · have hp : 0 < st.length := List.length_pos_iff.2 hs0
      obtain ⟨v, hv⟩ : ∃ v, v = n - 1 := ⟨_, rfl⟩
      have hnn := HN.out
      have e1 : (n : Int) - 1 = (v : Int) := by omega
      have e2 : (v : Int) < (n : Int) := by omega
      have e3 : ((n : Int) == 0) = false := beq_eq_false_iff_ne.2 (by omega)
      have e4 : IntKind.i64.wrap (v : Int) = (v : Int) := IntWalk.i64_in _ (by omega)
      obtain ⟨y, hy⟩ : ∃ y, y = st[v]'(by omega) := ⟨_, rfl⟩
      have hyv : st[v]? = some y := by rw [hy, List.getElem?_eq_getElem]
      have hbv : bf[v]? = some y := by
        rw [← hyv]
        have h2 : (bf.drop 0).take st.length = st := by rw [List.drop_zero]; exact Htk.out
        have := take_get h2 (j := v) (by omega)
        rw [Nat.zero_add] at this
        exact this
      have qy := buf_cell HB.out hbv
      have hy10 : y ≠ 10 := fun e => brk_none Hb.out (by rw [← e]; exact List.mem_of_getElem? hyv)
      have b10 : ((y.toNat : Int) == 10) = false := beq_eq_false_iff_ne.2 (fun e => hy10 (UInt8.toNat_inj.1 (by have : (10 : UInt8).toNat = 10 := rfl; omega)))
      have HS0 := hidF hs0
      clear hs0 hp hv hnn hy hyv hbv hy10
      go_wp2_with fail
      go_ret3
      exact ⟨HO.out, .inr (.inr (.inl ⟨HS0.out, Hb.out, by rw [← HN.out]; exact hl4, ret_slice3 HN.out, bf, n, n, _, lb, ls, HB.out, by rw [bufQ_nil, Hdl.out]; rfl, by rw [List.drop_zero]; exact Htk.out⟩))⟩
  · have hfu := hB.fu
    unfold eofV at hfu ⊢
    have hne := eql_err c.full c.full hB.fb hB.fb
    rw [decide_eq_true rfl] at hne
    have HB := hidF hB
    have q2 := hB.rd.cell 2 _ rfl
    have f2 := hB.rd.free 2
    have hlt := hB.rd.lt
    have hg : ¬ 2 = c.R := hB.ok.gf.1
    have hne0 : a ≠ [] := fun e => by rw [e] at hal; cases hal
    obtain ⟨y, hy⟩ : ∃ y, y = a.getLast hne0 := ⟨_, rfl⟩
    have hgl : a.getLast? = some y := by rw [hy, List.getLast?_eq_some_getLast hne0]
    have qy := buf_cell hB (show a[4095]? = some y by rw [← hgl, List.getLast?_eq_getElem?, hal])
    have Hsta := hidF hsta
    have Hno := hidF hno
    have Hdr := hidF hdr
    have Hal := hidF hal
    have Hgl := hidF hgl
    have Hne0 := hidF hne0
    clear hB hsta hno hdr hal hgl hne0 hy
    by_cases hy13 : y = 13
    · have b13 : ((y.toNat : Int) == 13) = true := by rw [hy13]; rfl
      have HY := hidF hy13
      clear hy13
      go_wp2_with fail
      go_ret3
      have hdl : a.dropLast.length = 4095 := by rw [List.length_dropLast, Hal.out]
      have hbd : a = a.dropLast ++ [13] := by
        rw [← HY.out]
        have := Hgl.out
        rw [List.getLast?_eq_some_getLast Hne0.out] at this
        have h2 := List.dropLast_concat_getLast Hne0.out
        rw [Option.some.inj this] at h2
        exact h2.symm
      refine ⟨HO.out.trans (BufAt.onlySet 2 _), .inr (.inr (.inr ⟨a.dropLast, 13 :: t, a, 4095, 4096, i, lb, ls, ?_, ?_, by omega, ?_, fun _ => rfl, ret_slice3 hdl.symm, ?_, ?_, ?_⟩))⟩
      · rw [Hsta.out]
        conv => lhs; rw [hbd]
        simp
      · intro e; rw [e] at hdl; cases hdl
      · exact fun h => Hno.out (List.dropLast_subset _ h)
      · exact HB.out.setR (r' := 4095) 2 _ rfl (by omega) (Nat.le_refl _)
      · rw [Hdr.out, bufQ_cons (x := 13) (by rw [← HY.out, ← Hgl.out, List.getLast?_eq_getElem?, Hal.out]) (by omega), bufQ_nil]; rfl
      · rw [List.drop_zero, hdl, List.dropLast_eq_take, Hal.out]
    · have b13 : ((y.toNat : Int) == 13) = false := beq_eq_false_iff_ne.2 (fun e => hy13 (UInt8.toNat_inj.1 (by have : (13 : UInt8).toNat = 13 := rfl; omega)))
      have HY := hidF hy13
      clear hy13
      go_wp2_with fail
      go_ret3
      refine ⟨HO.out, .inr (.inr (.inr ⟨a, t, a, 4096, 4096, i, lb, ls, Hsta.out, Hne0.out, by rw [Hal.out]; omega, Hno.out, fun h => ?_, ret_slice3 Hal.out.symm, HB.out, ?_, ?_⟩))⟩
      · rw [Hgl.out] at h
        exact absurd (Option.some.inj h) HY.out
      · rw [bufQ_nil, Hdr.out]; rfl
      · rw [List.drop_zero, List.take_of_length_le (Nat.le_refl _)]
end Go.Proofs.YtddnjdapdcopgaaDoor
