/- bufio's ReadSlice: the walk. -/
import Derived.Test.YtddnjdapdcopgaaDoorPeek
import Derived.Test.YtddnjdapdcopgaaDoorLineL
import Derived.Test.YtddnjdapdcopgaaDoorShelf
import Derived.Deep.LoopGhost
namespace Go.Proofs.YtddnjdapdcopgaaDoor
open Go.RowKit

theorem bytesOf_list (l : List UInt8) : Lib.bytesOf (l.map fun c => (c.toNat : Int)) = l := by
  unfold Lib.bytesOf
  rw [List.map_map]
  conv => rhs; rw [← List.map_id l]
  apply List.map_congr_left
  intro c _
  simp

theorem bufQ_get {bf : List UInt8} {r wi j : Nat} (h : j < wi - r) : (bufQ bf r wi)[j]? = bf[r + j]? := by
  unfold bufQ
  rw [List.getElem?_take, if_pos h, List.getElem?_drop]
theorem buf_cell {c : BR} {bf : List UInt8} {r wi i : Nat} {er : Value} {lb ls : Int} {w : World} (h : BufAt c bf r wi i er lb ls w) {j : Nat} {x : UInt8} (hj : bf[j]? = some x) : w.cell? ⟨c.F, j, none⟩ = some (.int .u8 (x.toNat : Int)) :=
  h.bb.cell _ _ (by unfold Lib.byteCells; rw [List.getElem?_map, hj]; rfl)

/-- IndexByte over what is in the buffer. -/
theorem index_at (c : BR) (bf : List UInt8) (r wi i s cap : Nat) (er : Value) (lb ls : Int) (w : World) (h : BufAt c bf r wi i er lb ls w) (hs : s ≤ wi - r) :
    Calls Tryd.prog 51 #[.slice (some ⟨c.F, r + s, none⟩) (wi - (r + s)) cap, .int .u8 10] w fun e w' => e = .returned (.int .i64 (Lib.indexByte ((bufQ bf r wi).drop s) 10)) ∧ w' = w := by
  have hl := bufQ_len (r := r) h.len h.wb
  have hx : (((bufQ bf r wi).drop s).map fun c => (c.toNat : Int)).length = wi - (r + s) := by rw [List.length_map, List.length_drop, hl]; omega
  have := Tryd.bytes_IndexByte c.F (r + s) (wi - (r + s)) cap _ 10 w hx (fun j hj => by
    have hlen : r + s + j < bf.length := by rw [h.len]; have := h.wb; omega
    have e : (bufQ bf r wi)[s + j]? = some bf[r + s + j] := by rw [bufQ_get (by omega), show r + (s + j) = r + s + j by omega, List.getElem?_eq_getElem]
    rw [buf_cell h (List.getElem?_eq_getElem hlen), List.getD_eq_getElem?_getD, List.getElem?_map, List.getElem?_drop, e]
    rfl)
  rw [bytesOf_list] at this
  exact this

theorem bufQ_drop (bf : List UInt8) (r wi k : Nat) : bufQ bf (r + k) wi = (bufQ bf r wi).drop k := by
  unfold bufQ
  rw [List.drop_take, List.drop_drop, Nat.sub_add_eq]
theorem bufQ_take {bf : List UInt8} {r wi k : Nat} (h : k ≤ wi - r) : (bufQ bf r wi).take k = (bf.drop r).take k := by
  unfold bufQ
  rw [List.take_take, Nat.min_eq_left h]
theorem slice_found {bf : List UInt8} {r wi : Nat} {a t0 : List UInt8} (hQ : bufQ bf r wi = a ++ 10 :: t0) : bufQ bf (r + a.length + 1) wi = t0 ∧ (bf.drop r).take (a.length + 1) = a ++ [10] := by
  have hl : a.length + 1 ≤ wi - r := by
    have h1 : (bufQ bf r wi).length ≤ wi - r := by unfold bufQ; rw [List.length_take]; omega
    rw [hQ, List.length_append, List.length_cons] at h1
    omega
  refine ⟨?_, ?_⟩
  · rw [Nat.add_assoc, bufQ_drop, hQ]
    simp
  · rw [← bufQ_take hl, hQ, List.take_append, show a.length + 1 - a.length = 1 by omega, List.take_of_length_le (by omega)]
    rfl
/-- IndexByte over nothing. -/
theorem index_empty (p : Addr) (w : World) :
    Calls Tryd.prog 51 #[.slice (some ⟨p.block, p.off, none⟩) 0 0, .int .u8 10] w fun e w' => e = .returned (.int .i64 (-1)) ∧ w' = w :=
  Tryd.bytes_IndexByte p.block p.off 0 0 [] 10 w rfl (fun j hj => absurd hj (by omega))

/-- Where the search stands. -/
def SlRel (c : BR) (st : List UInt8) (w : World) (g s : Nat) (wr : World) : Prop :=
  ∃ bf r wi i er lb ls, BufAt c bf r wi i er lb ls wr ∧ Only c.own w wr ∧ bufQ bf r wi ++ c.data.drop i = st ∧ 10 ∉ (bufQ bf r wi).take s ∧ s ≤ wi - r ∧ (r + s < 4096 ∨ (r = 4096 ∧ wi = 4096 ∧ s = 0)) ∧
    ((er = .nilIface ∧ g = c.data.length - i + 1) ∨ (er = eofV c.eof ∧ r = 0 ∧ i = c.data.length ∧ s = wi ∧ g = 0))

/-- A round more: what fill has done. -/
theorem sl_next {c : BR} {st : List UInt8} {w w1 w2 : World} {bf : List UInt8} {r wi i g s : Nat} {lb ls : Int} {e : Ending} (hO : Only c.own w w1) (hst : bufQ bf r wi ++ c.data.drop i = st) (hno : 10 ∉ bufQ bf r wi) (hw : wi - r < 4096) (hlen : bf.length = 4096) (hwb : wi ≤ 4096) (hil : i ≤ c.data.length) (hg : g = c.data.length - i + 1) (hs : s = wi - r)
    (h : FillOut c bf r wi i lb ls w1 e w2) : ∃ g2, g2 < g ∧ SlRel c st w g2 s w2 := by
  obtain ⟨_, k, bf', i', er', hB, hii, hq, hcase⟩ := h
  subst hs
  have hl := bufQ_len (r := r) hlen hwb
  rcases hcase with ⟨rfl, hie, rfl⟩ | ⟨hlt, rfl⟩
  · rw [Nat.sub_self, Nat.add_zero] at hB hq
    rw [List.take_zero, List.append_nil] at hq
    refine ⟨0, by omega, bf', 0, wi - r, i', _, lb, ls, hB, hO.trans k, ?_, ?_, by omega, .inl (by omega), .inr ⟨rfl, rfl, hie, rfl, rfl⟩⟩
    · rw [hq]; exact hst
    · rw [hq, List.take_of_length_le (by omega)]; exact hno
  · have hil2 := hB.il
    refine ⟨c.data.length - i' + 1, by omega, bf', 0, _, i', _, lb, ls, hB, hO.trans k, ?_, ?_, by omega, .inl (by omega), .inl ⟨rfl, rfl⟩⟩
    · rw [hq, List.append_assoc, ← hst]
      congr 1
      have : c.data.drop i' = (c.data.drop i).drop (i' - i) := by rw [List.drop_drop, show i + (i' - i) = i' by omega]
      rw [this, List.take_append_drop]
    · rw [hq, List.take_append_of_le_length (by omega), List.take_of_length_le (by omega)]; exact hno

/-- What ReadSlice hands back: a line, all that there is, a full buffer. -/
def SliceOut (c : BR) (st : List UInt8) (w : World) (e : Ending) (w' : World) : Prop :=
  Only c.own w w' ∧
   ((∃ bf r a t wi i, brk st = some (a, t) ∧ e = .returned (.tuple #[.slice (some ⟨c.F, r, none⟩) (a.length + 1) (4096 - r), .nilIface]) ∧ BufAt c bf (r + a.length + 1) wi i .nilIface 10 (-1) w' ∧ bufQ bf (r + a.length + 1) wi ++ c.data.drop i = t ∧ (bf.drop r).take (a.length + 1) = a ++ [10]) ∨
    (brk st = none ∧ st.length ≤ 4096 ∧ ∃ bf lb ls, e = .returned (.tuple #[.slice (some ⟨c.F, 0, none⟩) st.length 4096, eofV c.eof]) ∧ BufAt c bf st.length st.length c.data.length .nilIface lb ls w' ∧ bf.take st.length = st) ∨
    (∃ a t i lb ls, st = a ++ t ∧ a.length = 4096 ∧ 10 ∉ a ∧ c.data.drop i = t ∧ e = .returned (.tuple #[.slice (some ⟨c.F, 0, none⟩) 4096 4096, eofV c.full]) ∧ BufAt c a 4096 4096 i .nilIface lb ls w'))

set_option maxHeartbeats 16000000 in
set_option maxRecDepth 100000 in
theorem ReadSlice_any (c : BR) (st : List UInt8) (w : World) (h : BufQ c st w) :
    Calls Tryd.prog 48 #[.pointer (some ⟨c.R, 0, none⟩), .int .u8 10] w (SliceOut c st w) := by
  have h0 := hidF (show ∃ g, SlRel c st w g 0 w by
    obtain ⟨bf, r, wi, i, lb, ls, h, hst⟩ := h
    have := h.wb
    have := h.rw
    exact ⟨_, bf, r, wi, i, .nilIface, lb, ls, h, Only.refl _ _, hst, by simp, Nat.zero_le _, by omega, .inl ⟨rfl, rfl⟩⟩)
  clear h
  obtain ⟨g0, hg0⟩ := h0.out
  have H0 := hidF hg0
  clear h0 hg0
  go_enter Tryd.func48, Tryd.ntmps48
  go_wp2_with fail
  go_loopg [4, 5, 6, 7] g0 (fun g lv ev sv iv wr => lv = .slice none 0 0 ∧ ev = .nilIface ∧ ∃ s : Nat, sv = .int .i64 s ∧ Hid (SlRel c st w g s wr))
  case atStart => exact ⟨rfl, rfl, 0, rfl, H0⟩
  case round =>
    obtain ⟨rfl, rfl, s, rfl, hR⟩ := hrel
    obtain ⟨bf, r, wi, i, er, lb, ls, hB, hO, hst, hno, hsl, hrs, her⟩ := hR.out
    have hidx := index_brk ((bufQ bf r wi).drop s)
    have HB := hidF hB
    have HO := hidF hO
    have Hst := hidF hst
    have Hno := hidF hno
    have hrw := hB.rw
    have hwb := hB.wb
    have hil := hB.il
    clear hR hO hst hno
    rcases hrs with hrs | ⟨rfl, rfl, rfl⟩
    · have q0 := hB.rd.cell 0 _ rfl
      have q2 := hB.rd.cell 2 _ rfl
      have q3 := hB.rd.cell 3 _ rfl
      have q4 := hB.rd.cell 4 _ rfl
      have d1 : IntKind.i64.wrap ((r : Int) + (s : Int)) = ((r + s : Nat) : Int) := by rw [IntWalk.i64_in _ (by omega)]; omega
      have d2 : ((r + s : Nat) : Int) ≤ (wi : Int) := by omega
      have d3 : (wi : Int) ≤ 4096 := by omega
      have d4 : ¬ 4096 = r + s := by omega
      have hcall := hidF (fun n => index_at c bf r wi i s (4096 - (r + s)) er lb ls (wr.drewN n) (HB.out.drewN n) hsl)
      clear hB
      rcases hidx with ⟨hb, hi⟩ | ⟨a0, t0, hb, hi⟩
      · rw [hi] at hcall
        have hnoQ : 10 ∉ bufQ bf r wi := by
          intro hm
          rw [← List.take_append_drop s (bufQ bf r wi), List.mem_append] at hm
          rcases hm with hm | hm
          · exact Hno.out hm
          · exact brk_none hb hm
        have HnoQ := hidF hnoQ
        clear hb hi hnoQ
        rcases her with ⟨rfl, hg⟩ | ⟨rfl, rfl, hie, hsw, hg⟩
        · by_cases hfull : wi - r = 4096
          · obtain rfl : r = 0 := by omega
            obtain rfl : wi = 4096 := by omega
            have HST := hidF (show st = bf ++ c.data.drop i by
              rw [← Hst.out]
              congr 1
              unfold bufQ
              rw [List.drop_zero, List.take_of_length_le (by rw [HB.out.len]; omega)])
            simp only [Nat.zero_add] at hcall d1 d2 d4
            clear hg hfull
            go_wp2_with fail
            go_quiet ((go_at_call 51; exact Calls.quiet_of_same (hcall.out _)))
            have HB1 := hidF (HB.out.drewN nq)
            have HO1 := hidF (HO.out.trans (Only.drewN c.own wr nq))
            clear q0 q2 q3 q4 hcall HB HO d1 d2 d4
            generalize wr.drewN nq = w1 at HB1 HO1 ⊢
            have q0 := HB1.out.rd.cell 0 _ rfl
            have q4 := HB1.out.rd.cell 4 _ rfl
            have hbu := hidF (fun n => Buffered_any c bf 0 4096 i .nilIface lb ls (w1.drewN n) (HB1.out.drewN n))
            rw [Nat.sub_zero] at hbu
            go_wp2_with fail
            go_quiet ((go_at_call 43; exact Calls.quiet_of (hbu.out _)))
            have HB2 := hidF (HB1.out.drewN nq)
            have HO2 := hidF (HO1.out.trans (Only.drewN c.own w1 nq))
            clear q0 q4 hbu HB1 HO1
            generalize w1.drewN nq = w2 at HB2 HO2 ⊢
            have q0 := HB2.out.rd.cell 0 _ rfl
            have q2 := HB2.out.rd.cell 2 _ rfl
            have f2 := HB2.out.rd.free 2
            have q3 := HB2.out.rd.cell 3 _ rfl
            have q5 := HB2.out.rd.cell 5 _ rfl
            have f5 := HB2.out.rd.free 5
            have q6 := HB2.out.rd.cell 6 _ rfl
            have f6 := HB2.out.rd.free 6
            have hlt2 := HB2.out.rd.lt
            have hfu := HB2.out.fu
            unfold eofV at hfu
            obtain ⟨x, hx⟩ : ∃ x, x = bf[4095]'(by rw [HB2.out.len]; omega) := ⟨_, rfl⟩
            have qx := buf_cell HB2.out (show bf[4095]? = some x by rw [hx, List.getElem?_eq_getElem])
            have hx8 := x.toNat_lt
            have ex : IntKind.i64.wrap (x.toNat : Int) = (x.toNat : Int) := IntWalk.i64_in _ (by omega)
            have hne : ¬ c.F = c.R := fun e => HB2.out.ok.rf e.symm
            have hne2 : ¬ c.R = c.F := HB2.out.ok.rf
            have hng : ¬ 2 = c.R := HB2.out.ok.gf.1
            have hng2 : ¬ c.R = 2 := fun e => HB2.out.ok.gf.1 e.symm
            clear hx
            go_wp2_with fail
            go_ret2
            refine ⟨HO2.out.trans ((BufAt.onlySet 2 _).trans ((BufAt.onlySet 5 _).trans (BufAt.onlySet 6 _))), .inr (.inr ⟨bf, c.data.drop i, i, (x.toNat : Int), -1, HST.out, HB2.out.len, ?_, rfl, rfl, ?_⟩)⟩
            · have := HnoQ.out
              unfold bufQ at this
              rw [List.drop_zero, List.take_of_length_le (by rw [HB2.out.len]; omega)] at this
              exact this
            · exact HB2.out.reR ((Only.set _ _ _ _).trans ((Only.set _ _ _ _).trans (Only.set _ _ _ _))) (((HB2.out.rd.set 2 _).set 5 _).set 6 _) (Nat.le_refl _) (Nat.le_refl _)
          · have hq4 : wi - r < 4096 := by omega
            obtain ⟨q, hqe⟩ : ∃ q, q = wi - r := ⟨_, rfl⟩
            have HQ4 := hidF hqe
            have x1 : (wi : Int) - (r : Int) = (q : Int) := by omega
            have x2 : IntKind.i64.wrap (q : Int) = (q : Int) := IntWalk.i64_in _ (by omega)
            have x3 : ¬ (4096 : Int) ≤ (q : Int) := by omega
            have HG := hidF hg
            clear hg hfull hqe
            go_wp2_with fail
            go_quiet ((go_at_call 51; exact Calls.quiet_of_same (hcall.out _)))
            have HB1 := hidF (HB.out.drewN nq)
            have HO1 := hidF (HO.out.trans (Only.drewN c.own wr nq))
            clear q0 q2 q3 q4 hcall HB HO d1 d2 d4
            generalize wr.drewN nq = w1 at HB1 HO1 ⊢
            have q0 := HB1.out.rd.cell 0 _ rfl
            have q4 := HB1.out.rd.cell 4 _ rfl
            have hbu := hidF (fun n => Buffered_any c bf r wi i .nilIface lb ls (w1.drewN n) (HB1.out.drewN n))
            rw [← HQ4.out] at hbu
            go_wp2_with fail
            go_quiet ((go_at_call 43; exact Calls.quiet_of (hbu.out _)))
            have HB2 := hidF (HB1.out.drewN nq)
            have HO2 := hidF (HO1.out.trans (Only.drewN c.own w1 nq))
            clear q0 q4 hbu HB1 HO1
            generalize w1.drewN nq = w2 at HB2 HO2 ⊢
            have q2 := HB2.out.rd.cell 2 _ rfl
            have q3 := HB2.out.rd.cell 3 _ rfl
            go_wp2_with fail
            go_quiet (fail)
            have HB3 := hidF (HB2.out.drewN nq)
            have HO3 := hidF (HO2.out.trans (Only.drewN c.own w2 nq))
            clear q2 q3 HB2 HO2
            generalize w2.drewN nq = w3 at HB3 HO3 ⊢
            have hfill := hidF (fill_any c bf r wi i lb ls w3 HB3.out hq4)
            go_wp2_with fail
            refine hfill.out.mono ?_
            rintro e w4 hfo
            obtain ⟨g2, hg2, hrel2⟩ := sl_next HO3.out Hst.out HnoQ.out hq4 HB3.out.len hwb hil HG.out HQ4.out hfo
            have Hrel2 := hidF hrel2
            obtain ⟨rfl, _⟩ := hfo
            clear hrel2 hfill
            go_wp2_with fail
            go_roundg g2
            case measure => exact hg2
            case rel => exact ⟨rfl, rfl, q, rfl, Hrel2⟩
        · have HST := hidF (show st = bufQ bf 0 wi by
            rw [← Hst.out, hie, List.drop_length, List.append_nil])
          have HIE := hidF hie
          have hws : wi < 4096 := by omega
          have y0 : ((eofV c.eof) : Value) = .iface 89 (.pointer (some c.eof)) := rfl
          rw [y0] at q4
          simp only [Nat.zero_add] at hcall d1 d2 d4
          clear hg hie hsw y0
          go_wp2_with fail
          go_quiet ((go_at_call 51; exact Calls.quiet_of_same (hcall.out _)))
          have HB1 := hidF (HB.out.drewN nq)
          have HO1 := hidF (HO.out.trans (Only.drewN c.own wr nq))
          clear q0 q2 q3 q4 hcall HB HO d1 d2 d4
          generalize wr.drewN nq = w1 at HB1 HO1 ⊢
          have q0 := HB1.out.rd.cell 0 _ rfl
          have q2 := HB1.out.rd.cell 2 _ rfl
          have q3 := HB1.out.rd.cell 3 _ rfl
          have q4 := HB1.out.rd.cell 4 (.iface 89 (.pointer (some c.eof))) rfl
          go_wp2_with fail
          go_quiet (fail)
          have HB2 := hidF (HB1.out.drewN nq)
          have HO2 := hidF (HO1.out.trans (Only.drewN c.own w1 nq))
          clear q0 q2 q3 q4 HB1 HO1
          generalize w1.drewN nq = w2 at HB2 HO2 ⊢
          have q2 := HB2.out.rd.cell 2 _ rfl
          have f2 := HB2.out.rd.free 2
          have q3 := HB2.out.rd.cell 3 _ rfl
          have hlt2 := HB2.out.rd.lt
          have HB3 := hidF (show BufAt c bf wi wi i (eofV c.eof) lb ls (w2.setCell ⟨c.R, 2, none⟩ (.int .i64 (wi : Int))) from HB2.out.setR 2 _ rfl (Nat.le_refl _) hwb)
          have HO3 := hidF (HO2.out.trans (BufAt.onlySet (c := c) (w := w2) 2 (.int .i64 (wi : Int))))
          have hre := hidF (readErr_any c bf wi wi i (eofV c.eof) lb ls _ HB3.out)
          unfold eofV at hre
          go_wp2_with fail
          refine hre.out.mono ?_
          rintro e w4 ⟨rfl, k4, hB4⟩
          have HB4 := hidF hB4
          have HO4 := hidF (HO3.out.trans k4)
          clear hre k4 hB4 HB3 HO3 q2 f2 q3 hlt2 HB2 HO2
          have hlst : st.length = wi := by rw [HST.out, bufQ_len HB4.out.len hwb]; rfl
          have hnost : brk st = none := by rw [HST.out]; exact brk_not HnoQ.out
          have hbt : bf.take st.length = st := by rw [hlst, HST.out]; unfold bufQ; rw [List.drop_zero]; rfl
          have HF := hidF (And.intro hlst (And.intro hnost hbt))
          clear hlst hnost hbt
          by_cases hw0 : wi = 0
          · subst hw0
            go_wp2_with fail
            go_ret2
            refine ⟨HO4.out, .inr (.inl ⟨HF.out.2.1, by rw [HF.out.1]; omega, bf, lb, ls, ?_, ?_, HF.out.2.2⟩)⟩
            · rw [HF.out.1]; rfl
            · rw [HF.out.1, ← HIE.out]; exact HB4.out
          · obtain ⟨v, hv⟩ : ∃ v, v = wi - 1 := ⟨_, rfl⟩
            have e1 : (wi : Int) - 1 = (v : Int) := by omega
            have e2 : (v : Int) < (wi : Int) := by omega
            have e3 : IntKind.i64.wrap (v : Int) = (v : Int) := IntWalk.i64_in _ (by omega)
            obtain ⟨x, hx⟩ : ∃ x, x = bf[v]'(by rw [HB4.out.len]; omega) := ⟨_, rfl⟩
            have qx := buf_cell HB4.out (show bf[v]? = some x by rw [hx, List.getElem?_eq_getElem])
            have q5 := HB4.out.rd.cell 5 _ rfl
            have f5 := HB4.out.rd.free 5
            have q6 := HB4.out.rd.cell 6 _ rfl
            have f6 := HB4.out.rd.free 6
            have hlt4 := HB4.out.rd.lt
            have hx8 := x.toNat_lt
            have ex : IntKind.i64.wrap (x.toNat : Int) = (x.toNat : Int) := IntWalk.i64_in _ (by omega)
            have hne : ¬ c.F = c.R := fun e => HB4.out.ok.rf e.symm
            have hne2 : ¬ c.R = c.F := HB4.out.ok.rf
            clear hx hv hw0
            go_wp2_with fail
            go_ret2
            refine ⟨HO4.out.trans ((BufAt.onlySet 5 _).trans (BufAt.onlySet 6 _)), .inr (.inl ⟨HF.out.2.1, by rw [HF.out.1]; omega, bf, (x.toNat : Int), -1, ?_, ?_, HF.out.2.2⟩)⟩
            · rw [HF.out.1]; rfl
            · rw [HF.out.1, ← HIE.out]
              exact HB4.out.reR ((Only.set _ _ _ _).trans (Only.set _ _ _ _)) ((HB4.out.rd.set 5 _).set 6 _) (Nat.le_refl _) hwb
      · rw [hi] at hcall
        have hern : er = .nilIface := by
          rcases her with ⟨h, _⟩ | ⟨_, h1, _, h2, _⟩
          · exact h
          · have hl := bufQ_len (r := r) HB.out.len hwb
            have : (bufQ bf r wi).drop s = [] := List.drop_eq_nil_of_le (by omega)
            rw [this] at hb
            cases hb
        subst hern
        obtain ⟨k0, hk0⟩ : ∃ k0, k0 = a0.length := ⟨_, rfl⟩
        rw [← hk0] at hcall
        obtain ⟨he0, hn0⟩ := brk_some hb
        have hl := bufQ_len (r := r) HB.out.len hwb
        have hl0 : s + k0 + 1 ≤ wi - r := by
          have := congrArg List.length he0
          rw [List.length_drop, List.length_append, List.length_cons, hl] at this
          omega
        -- the line and what is behind it
        have hQ : bufQ bf r wi = ((bufQ bf r wi).take s ++ a0) ++ 10 :: t0 := by
          conv => lhs; rw [← List.take_append_drop s (bufQ bf r wi), he0]
          simp
        have HQ := hidF hQ
        have HN0 := hidF hn0
        have HK0 := hidF hk0
        clear hb hi he0 hn0 hQ hk0 hl her
        have d5 : (0 : Int) ≤ (k0 : Int) := by omega
        go_wp2_with fail
        go_quiet ((go_at_call 51; exact Calls.quiet_of_same (hcall.out _)))
        have HB1 := hidF (HB.out.drewN nq)
        have HO1 := hidF (HO.out.trans (Only.drewN c.own wr nq))
        clear q0 q2 q3 q4 hcall HB HO d1 d2 d4
        generalize wr.drewN nq = w1 at HB1 HO1 ⊢
        have q0 := HB1.out.rd.cell 0 _ rfl
        have q2 := HB1.out.rd.cell 2 _ rfl
        obtain ⟨K, hK⟩ : ∃ K, K = k0 + s := ⟨_, rfl⟩
        obtain ⟨K1, hK1⟩ : ∃ K1, K1 = K + 1 := ⟨_, rfl⟩
        obtain ⟨E, hE⟩ : ∃ E, E = r + K + 1 := ⟨_, rfl⟩
        have hEw : E ≤ wi := by omega
        have e1 : (k0 : Int) + (s : Int) = (K : Int) := by omega
        have e2 : (r : Int) + (K : Int) + 1 = (E : Int) := by omega
        have e3 : (K : Int) + 1 = (K1 : Int) := by omega
        have e4 : (r : Int) + (K1 : Int) = (E : Int) := by omega
        have e5 : E - r = K1 := by omega
        have e6 : (K1 : Int) - 1 = (K : Int) := by omega
        have e7 : (r : Int) ≤ (E : Int) := by omega
        have e8 : (E : Int) ≤ 4096 := by omega
        have e9 : ¬ 4096 = r := by omega
        have ea : (K : Int) < (K1 : Int) := by omega
        have eb : IntKind.i64.wrap (K : Int) = (K : Int) := IntWalk.i64_in _ (by omega)
        have ec : IntKind.i64.wrap (E : Int) = (E : Int) := IntWalk.i64_in _ (by omega)
        have ed : IntKind.i64.wrap (K1 : Int) = (K1 : Int) := IntWalk.i64_in _ (by omega)
        have HKK := hidF (And.intro hK (And.intro hK1 hE))
        clear hK hK1 hE
        go_wp2_with fail
        go_quiet (fail)
        have HB2 := hidF (HB1.out.drewN nq)
        have HO2 := hidF (HO1.out.trans (Only.drewN c.own w1 nq))
        clear q0 q2 HB1 HO1
        generalize w1.drewN nq = w2 at HB2 HO2 ⊢
        have q2 := HB2.out.rd.cell 2 _ rfl
        have f2 := HB2.out.rd.free 2
        have q5 := HB2.out.rd.cell 5 _ rfl
        have f5 := HB2.out.rd.free 5
        have q6 := HB2.out.rd.cell 6 _ rfl
        have f6 := HB2.out.rd.free 6
        have hlt2 := HB2.out.rd.lt
        have hqk : (bufQ bf r wi)[K]? = some 10 := by
          rw [HQ.out, List.getElem?_append_right (by rw [List.length_append, List.length_take, bufQ_len HB2.out.len hwb]; have := HKK.out.1; have := HK0.out; omega), List.length_append, List.length_take, bufQ_len HB2.out.len hwb, show K - (min s (wi - r) + a0.length) = 0 by have := HKK.out.1; have := HK0.out; omega]
          rfl
        have hkr : K < wi - r := by obtain ⟨h1, h2, h3⟩ := HKK.out; omega
        rw [bufQ_get hkr] at hqk
        have qx := buf_cell HB2.out hqk
        rw [show (((10 : UInt8).toNat : Nat) : Int) = 10 from rfl] at qx
        have HQK := hidF hqk
        have hne : ¬ c.F = c.R := fun e => HB2.out.ok.rf e.symm
        have hne2 : ¬ c.R = c.F := HB2.out.ok.rf
        clear hqk
        go_wp2_with fail
        go_ret2
        obtain ⟨hK, hK1, hE⟩ := HKK.out
        have hal : ((bufQ bf r wi).take s ++ a0).length = K := by rw [List.length_append, List.length_take, bufQ_len HB2.out.len hwb]; have := HK0.out; omega
        have hf := slice_found HQ.out
        rw [hal] at hf
        refine ⟨HO2.out.trans ((BufAt.onlySet 2 _).trans ((BufAt.onlySet 5 _).trans (BufAt.onlySet 6 _))), .inl ⟨bf, r, (bufQ bf r wi).take s ++ a0, t0 ++ c.data.drop i, wi, i, ?_, ?_, ?_, ?_, ?_⟩⟩
        · have : st = ((bufQ bf r wi).take s ++ a0) ++ 10 :: (t0 ++ c.data.drop i) := by
            rw [← Hst.out]
            conv => lhs; rw [HQ.out]
            simp
          rw [this]
          exact brk_at _ _ (by rw [List.mem_append, not_or]; exact ⟨Hno.out, HN0.out⟩)
        · rw [hal, ← hK1]
          rfl
        · rw [hal, ← hE]
          exact HB2.out.reR ((Only.set _ _ _ _).trans ((Only.set _ _ _ _).trans (Only.set _ _ _ _))) (((HB2.out.rd.set 2 _).set 5 _).set 6 _) hEw hwb
        · rw [hal, hf.1]
        · rw [hal]; exact hf.2
    · obtain ⟨rfl, hg⟩ : er = .nilIface ∧ gk = c.data.length - i + 1 := by
        rcases her with h | ⟨_, h1, _⟩
        · exact h
        · exact absurd h1 (by decide)
      have q0 := hB.rd.cell 0 _ rfl
      have q2 := hB.rd.cell 2 _ rfl
      have q3 := hB.rd.cell 3 _ rfl
      have hcall := hidF (fun n => index_empty ⟨c.F, 0, none⟩ (wr.drewN n))
      have HG := hidF hg
      clear hg hB hidx her
      go_wp2_with fail
      go_quiet ((go_at_call 51; exact Calls.quiet_of_same (hcall.out _)))
      have HB1 := hidF (HB.out.drewN nq)
      have HO1 := hidF (HO.out.trans (Only.drewN c.own wr nq))
      clear q0 q2 q3 hcall HB HO
      generalize wr.drewN nq = w1 at HB1 HO1 ⊢
      have q0 := HB1.out.rd.cell 0 _ rfl
      have q4 := HB1.out.rd.cell 4 _ rfl
      have hbu := hidF (fun n => Buffered_any c bf 4096 4096 i .nilIface lb ls (w1.drewN n) (HB1.out.drewN n))
      rw [Nat.sub_self] at hbu
      go_wp2_with fail
      go_quiet ((go_at_call 43; exact Calls.quiet_of (hbu.out _)))
      have HB2 := hidF (HB1.out.drewN nq)
      have HO2 := hidF (HO1.out.trans (Only.drewN c.own w1 nq))
      clear q0 q4 hbu HB1 HO1
      generalize w1.drewN nq = w2 at HB2 HO2 ⊢
      have q2 := HB2.out.rd.cell 2 _ rfl
      have q3 := HB2.out.rd.cell 3 _ rfl
      go_wp2_with fail
      go_quiet (fail)
      have HB3 := hidF (HB2.out.drewN nq)
      have HO3 := hidF (HO2.out.trans (Only.drewN c.own w2 nq))
      clear q2 q3 HB2 HO2
      generalize w2.drewN nq = w3 at HB3 HO3 ⊢
      have hfill := hidF (fill_any c bf 4096 4096 i lb ls w3 HB3.out (by omega))
      go_wp2_with fail
      refine hfill.out.mono ?_
      rintro e w4 hfo
      obtain ⟨g2, hg2, hrel2⟩ := sl_next HO3.out Hst.out (by rw [bufQ_nil]; simp) (by omega) HB3.out.len (Nat.le_refl _) hil HG.out (show 0 = 4096 - 4096 by omega) hfo
      have Hrel2 := hidF hrel2
      obtain ⟨rfl, _⟩ := hfo
      clear hrel2 hfill
      go_wp2_with fail
      go_roundg g2
      case measure => exact hg2
      case rel => exact ⟨rfl, rfl, 0, rfl, Hrel2⟩
end Go.Proofs.YtddnjdapdcopgaaDoor
