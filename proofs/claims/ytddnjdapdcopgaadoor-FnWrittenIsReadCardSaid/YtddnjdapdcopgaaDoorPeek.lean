/- bufio's Peek: the walks. -/
import Derived.Test.YtddnjdapdcopgaaDoorBufB
namespace Go.Proofs.YtddnjdapdcopgaaDoor
open Go.RowKit

theorem ret_slice {p : Option Addr} {a b c : Nat} {v : Value} (h : a = b) : Ending.returned (.tuple #[.slice p a c, v]) = .returned (.tuple #[.slice p b c, v]) := by rw [h]

set_option maxHeartbeats 4000000 in
set_option maxRecDepth 100000 in
theorem Peek_have (c : BR) (bf : List UInt8) (r wi i n : Nat) (lb ls : Int) (w : World) (h : BufAt c bf r wi i .nilIface lb ls w) (hn : 1 ≤ n) (hq : n ≤ wi - r) :
    Calls Tryd.prog 24 #[.pointer (some ⟨c.R, 0, none⟩), .int .i64 (n : Int)] w fun e w' => e = .returned (.tuple #[.slice (some ⟨c.F, r, none⟩) n (4096 - r), .nilIface]) ∧ Only c.own w w' ∧ BufAt c bf r wi i .nilIface (-1) (-1) w' := by
  have q5 := h.rd.cell 5 _ rfl
  have f5 := h.rd.free 5
  have q6 := h.rd.cell 6 _ rfl
  have f6 := h.rd.free 6
  have hlt := h.rd.lt
  have H := hidF h
  have hrw := h.rw
  have hwb := h.wb
  obtain ⟨q, hqe⟩ : ∃ q, q = wi - r := ⟨_, rfl⟩
  have x1 : (wi : Int) - (r : Int) = (q : Int) := by omega
  have x2 : IntKind.i64.wrap (q : Int) = (q : Int) := IntWalk.i64_in _ (by omega)
  rw [← hqe] at hq
  have b1 : decide ((q : Int) < (n : Int)) = false := decide_eq_false (by omega)
  have b2 : ¬ (n : Int) < 0 := by omega
  have b3 : ¬ (4096 : Int) < (n : Int) := by omega
  have b4 : ¬ (q : Int) < (n : Int) := by omega
  have b7 : decide (q < n) = false := decide_eq_false (by omega)
  have hqr : r + q = wi := by omega
  have Hqr := hidF hqr
  have hrn : r + n ≤ 4096 := by omega
  clear h hqe hqr
  go_enter Tryd.func24, Tryd.ntmps24
  go_wp2_with fail
  have HB1 := hidF (show BufAt c bf r wi i .nilIface (-1) (-1) ((w.setCell ⟨c.R, 5, none⟩ (.int .i64 (-1))).setCell ⟨c.R, 6, none⟩ (.int .i64 (-1))) from H.out.reR ((Only.set _ _ _ _).trans (Only.set _ _ _ _)) ((H.out.rd.set 5 _).set 6 _) hrw hwb)
  have HO1 := hidF (show Only c.own w ((w.setCell ⟨c.R, 5, none⟩ (.int .i64 (-1))).setCell ⟨c.R, 6, none⟩ (.int .i64 (-1))) from (BufAt.onlySet 5 _).trans (BufAt.onlySet 6 _))
  clear q5 f5 q6 f6 hlt
  generalize (w.setCell ⟨c.R, 5, none⟩ (.int .i64 (-1))).setCell ⟨c.R, 6, none⟩ (.int .i64 (-1)) = w1 at HB1 HO1 ⊢
  have q0 := HB1.out.rd.cell 0 _ rfl
  have q2 := HB1.out.rd.cell 2 _ rfl
  have q3 := HB1.out.rd.cell 3 _ rfl
  have q4 := HB1.out.rd.cell 4 _ rfl
  refine wp_loop_rounds 1 ?_
  rw [rounds_succ]
  go_wp2_with fail
  go_quiet (fail)
  have HB2 := hidF (HB1.out.drewN nq)
  have HO2 := hidF (HO1.out.trans (Only.drewN c.own w1 nq))
  clear HB1 HO1 q0 q2 q3 q4
  generalize w1.drewN nq = w2 at HB2 HO2 ⊢
  have q0 := HB2.out.rd.cell 0 _ rfl
  have q2 := HB2.out.rd.cell 2 _ rfl
  have q3 := HB2.out.rd.cell 3 _ rfl
  go_wp2_with fail
  go_quiet (fail)
  have HB3 := hidF (HB2.out.drewN nq)
  have HO3 := hidF (HO2.out.trans (Only.drewN c.own w2 nq))
  clear HB2 HO2 q0 q2 q3
  generalize w2.drewN nq = w3 at HB3 HO3 ⊢
  have q0 := HB3.out.rd.cell 0 _ rfl
  have q2 := HB3.out.rd.cell 2 _ rfl
  have d2 : IntKind.i64.wrap ((r : Int) + n) = ((r + n : Nat) : Int) := by rw [IntWalk.i64_in _ (by omega)]; omega
  have d3 : (((r + n : Nat) : Int)) ≤ 4096 := by omega
  have d4 : (r : Int) ≤ ((r + n : Nat) : Int) := by omega
  have d5 : ¬ 4096 = r := by omega
  have d6 : r + n - r = n := by omega
  go_wp2_with fail
  go_quiet (fail)
  have HB4 := hidF (HB3.out.drewN nq)
  have HO4 := hidF (HO3.out.trans (Only.drewN c.own w3 nq))
  clear HB3 HO3 q0 q2
  generalize w3.drewN nq = w4 at HB4 HO4 ⊢
  go_wp2_with fail
  go_ret2
  exact ⟨ret_slice (by omega), HO4.out, HB4.out⟩

/-- What Peek(1) hands back. -/
def PeekOut (c : BR) (st : List UInt8) (w : World) (e : Ending) (w' : World) : Prop :=
  Only c.own w w' ∧ BufQ c st w' ∧ match st with
  | [] => ∃ v, e = .returned (.tuple #[v, eofV c.eof])
  | x :: _ => ∃ o cap, e = .returned (.tuple #[.slice (some ⟨c.F, o, none⟩) 1 cap, .nilIface]) ∧ w'.cell? ⟨c.F, o, none⟩ = some (.int .u8 (x.toNat : Int))

set_option maxHeartbeats 4000000 in
set_option maxRecDepth 100000 in
theorem Peek_fill (c : BR) (bf : List UInt8) (r i : Nat) (lb ls : Int) (w : World) (h : BufAt c bf r r i .nilIface lb ls w) :
    Calls Tryd.prog 24 #[.pointer (some ⟨c.R, 0, none⟩), .int .i64 1] w (PeekOut c (c.data.drop i) w) := by
  have q5 := h.rd.cell 5 _ rfl
  have f5 := h.rd.free 5
  have q6 := h.rd.cell 6 _ rfl
  have f6 := h.rd.free 6
  have hlt := h.rd.lt
  have H := hidF h
  have hrw := h.rw
  have hwb := h.wb
  have x1 : (r : Int) - (r : Int) = 0 := by omega
  clear h
  go_enter Tryd.func24, Tryd.ntmps24
  go_wp2_with fail
  have HB1 := hidF (show BufAt c bf r r i .nilIface (-1) (-1) ((w.setCell ⟨c.R, 5, none⟩ (.int .i64 (-1))).setCell ⟨c.R, 6, none⟩ (.int .i64 (-1))) from H.out.reR ((Only.set _ _ _ _).trans (Only.set _ _ _ _)) ((H.out.rd.set 5 _).set 6 _) hrw hwb)
  have HO1 := hidF (show Only c.own w ((w.setCell ⟨c.R, 5, none⟩ (.int .i64 (-1))).setCell ⟨c.R, 6, none⟩ (.int .i64 (-1))) from (BufAt.onlySet 5 _).trans (BufAt.onlySet 6 _))
  clear q5 f5 q6 f6 hlt
  generalize (w.setCell ⟨c.R, 5, none⟩ (.int .i64 (-1))).setCell ⟨c.R, 6, none⟩ (.int .i64 (-1)) = w0 at HB1 HO1 ⊢
  have q0 := HB1.out.rd.cell 0 _ rfl
  have q2 := HB1.out.rd.cell 2 _ rfl
  have q3 := HB1.out.rd.cell 3 _ rfl
  have q4 := HB1.out.rd.cell 4 _ rfl
  refine wp_loop_rounds 2 ?_
  rw [rounds_succ]
  go_wp2_with fail
  go_quiet (fail)
  have HB2 := hidF (HB1.out.drewN nq)
  have HO2 := hidF (HO1.out.trans (Only.drewN c.own w0 nq))
  clear HB1 HO1 q0 q2 q3 q4
  generalize w0.drewN nq = w0b at HB2 HO2 ⊢
  have hfill := hidF (fill_any c bf r r i (-1) (-1) w0b HB2.out (by omega))
  go_wp2_with fail
  refine hfill.out.mono ?_
  rintro e w1 ⟨rfl, k1, bf', i', er', hB1, hii, hq1, hcase⟩
  have HO1 := hidF (HO2.out.trans k1)
  clear hfill HB2 HO2 k1
  rw [Nat.sub_self, Nat.zero_add] at hB1 hq1
  rw [bufQ_nil, List.nil_append] at hq1
  rcases hcase with ⟨rfl, hil, rfl⟩ | ⟨hlt2, rfl⟩
  · rw [Nat.sub_self] at hB1
    have HB1 := hidF hB1
    have HIL := hidF hil
    have q0 := hB1.rd.cell 0 _ rfl
    have q2 := hB1.rd.cell 2 _ rfl
    have q3 := hB1.rd.cell 3 _ rfl
    have q4 := hB1.rd.cell 4 _ rfl
    unfold eofV at q4
    clear hB1 hq1 hii hil
    go_wp2_with fail
    rw [rounds_succ]
    go_wp2_with fail
    go_quiet (fail)
    have HB2 := hidF (HB1.out.drewN nq)
    have HO2 := hidF (HO1.out.trans (Only.drewN c.own w1 nq))
    clear HB1 HO1 q0 q2 q3 q4
    generalize w1.drewN nq = w2 at HB2 HO2 ⊢
    have q0 := HB2.out.rd.cell 0 _ rfl
    have q2 := HB2.out.rd.cell 2 _ rfl
    have q3 := HB2.out.rd.cell 3 _ rfl
    go_wp2_with fail
    go_quiet (fail)
    have HB3 := hidF (HB2.out.drewN nq)
    have HO3 := hidF (HO2.out.trans (Only.drewN c.own w2 nq))
    clear HB2 HO2 q0 q2 q3
    generalize w2.drewN nq = w3 at HB3 HO3 ⊢
    have hre := hidF (readErr_any c bf' 0 0 i' (eofV c.eof) (-1) (-1) w3 HB3.out)
    unfold eofV at hre
    go_wp2_with fail
    refine hre.out.mono ?_
    rintro e w4 ⟨rfl, k4, hB4⟩
    have HB4 := hidF hB4
    have HO4 := hidF (HO3.out.trans k4)
    have q0 := hB4.rd.cell 0 _ rfl
    have q2 := hB4.rd.cell 2 _ rfl
    clear hB4 k4 hre HB3 HO3
    go_wp2_with fail
    go_quiet (fail)
    have HB5 := hidF (HB4.out.drewN nq)
    have HO5 := hidF (HO4.out.trans (Only.drewN c.own w4 nq))
    clear HB4 HO4 q0 q2
    generalize w4.drewN nq = w5 at HB5 HO5 ⊢
    go_wp2_with fail
    go_ret2
    refine ⟨HO5.out, ⟨bf', 0, 0, i', -1, -1, HB5.out, by rw [bufQ_nil, List.nil_append]⟩, ?_⟩
    rw [HIL.out, List.drop_length]
    exact ⟨_, rfl⟩
  · obtain ⟨d, hd⟩ : ∃ d, d = i' - i := ⟨_, rfl⟩
    rw [← hd] at hB1 hq1
    have hd0 : 0 < d := by omega
    have HB1 := hidF hB1
    have hwb1 := hB1.wb
    have HST := hidF (show bufQ bf' 0 d ++ c.data.drop i' = c.data.drop i by
      rw [hq1]
      have : c.data.drop i' = (c.data.drop i).drop d := by rw [List.drop_drop, show i + d = i' by omega]
      rw [this, List.take_append_drop])
    have b1 : decide ((d : Int) < 1) = false := decide_eq_false (by omega)
    have b4 : ¬ (d : Int) < 1 := by omega
    have q0 := hB1.rd.cell 0 _ rfl
    have q2 := hB1.rd.cell 2 _ rfl
    have q3 := hB1.rd.cell 3 _ rfl
    have q4 := hB1.rd.cell 4 _ rfl
    clear hd hB1 hq1 hii hlt2
    go_wp2_with fail
    rw [rounds_succ]
    go_wp2_with fail
    go_quiet (fail)
    have HB2 := hidF (HB1.out.drewN nq)
    have HO2 := hidF (HO1.out.trans (Only.drewN c.own w1 nq))
    clear HB1 HO1 q0 q2 q3 q4
    generalize w1.drewN nq = w2 at HB2 HO2 ⊢
    have q0 := HB2.out.rd.cell 0 _ rfl
    have q2 := HB2.out.rd.cell 2 _ rfl
    have q3 := HB2.out.rd.cell 3 _ rfl
    go_wp2_with fail
    go_quiet (fail)
    have HB3 := hidF (HB2.out.drewN nq)
    have HO3 := hidF (HO2.out.trans (Only.drewN c.own w2 nq))
    clear HB2 HO2 q0 q2 q3
    generalize w2.drewN nq = w3 at HB3 HO3 ⊢
    have q0 := HB3.out.rd.cell 0 _ rfl
    have q2 := HB3.out.rd.cell 2 _ rfl
    go_wp2_with fail
    go_quiet (fail)
    have HB4 := hidF (HB3.out.drewN nq)
    have HO4 := hidF (HO3.out.trans (Only.drewN c.own w3 nq))
    clear HB3 HO3 q0 q2
    generalize w3.drewN nq = w4 at HB4 HO4 ⊢
    go_wp2_with fail
    go_ret2
    have hbl : 0 < bf'.length := by rw [HB4.out.len]; omega
    obtain ⟨x, hx⟩ : ∃ x, x = bf'[0] := ⟨_, rfl⟩
    have hxr : bf'[0]? = some x := by rw [hx, List.getElem?_eq_getElem]
    have qx := HB4.out.bb.cell 0 (.int .u8 (x.toNat : Int)) (by unfold Lib.byteCells; rw [List.getElem?_map, hxr]; rfl)
    refine ⟨HO4.out, ⟨bf', 0, d, i', -1, -1, HB4.out, HST.out⟩, ?_⟩
    rw [← HST.out, bufQ_cons hxr hd0]
    exact ⟨0, _, rfl, qx⟩

theorem Peek1_any (c : BR) (st : List UInt8) (w : World) (h : BufQ c st w) :
    Calls Tryd.prog 24 #[.pointer (some ⟨c.R, 0, none⟩), .int .i64 1] w (PeekOut c st w) := by
  obtain ⟨bf, r, wi, i, lb, ls, h, rfl⟩ := h
  have hrw := h.rw
  have hwb := h.wb
  by_cases hr : r < wi
  · refine (Peek_have c bf r wi i 1 lb ls w h (Nat.le_refl _) (by omega)).mono ?_
    rintro e w' ⟨rfl, k, hB⟩
    have hbl : r < bf.length := by rw [hB.len]; omega
    obtain ⟨x, hx⟩ : ∃ x, x = bf[r] := ⟨_, rfl⟩
    have hxr : bf[r]? = some x := by rw [hx, List.getElem?_eq_getElem]
    have qx := hB.bb.cell r (.int .u8 (x.toNat : Int)) (by unfold Lib.byteCells; rw [List.getElem?_map, hxr]; rfl)
    refine ⟨k, ⟨bf, r, wi, i, -1, -1, hB, rfl⟩, ?_⟩
    rw [bufQ_cons hxr hr]
    exact ⟨r, _, rfl, qx⟩
  · obtain rfl : r = wi := by omega
    have := Peek_fill c bf r i lb ls w h
    rw [bufQ_nil, List.nil_append]
    exact this
end Go.Proofs.YtddnjdapdcopgaaDoor
