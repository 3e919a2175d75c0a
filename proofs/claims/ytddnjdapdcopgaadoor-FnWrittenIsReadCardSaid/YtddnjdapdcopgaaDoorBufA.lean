/- bufio's readErr, Buffered, ReadByte, UnreadByte: the walks. -/
import Derived.Test.YtddnjdapdcopgaaDoorFill
namespace Go.Proofs.YtddnjdapdcopgaaDoor
open Go.RowKit

set_option maxHeartbeats 1000000 in
theorem readErr_any (c : BR) (bf : List UInt8) (r wi i : Nat) (er : Value) (lb ls : Int) (w : World) (h : BufAt c bf r wi i er lb ls w) :
    Calls Tryd.prog 33 #[.pointer (some ⟨c.R, 0, none⟩)] w fun e w' => e = .returned er ∧ Only c.own w w' ∧ BufAt c bf r wi i .nilIface lb ls w' := by
  have q4 := h.rd.cell 4 _ rfl
  have f4 := h.rd.free 4
  have hlt := h.rd.lt
  have H := hidF h
  clear h
  go_enter Tryd.func33, Tryd.ntmps33
  go_wp2_with fail
  go_ret
  exact ⟨rfl, BufAt.onlySet 4 _, H.out.setR 4 _ rfl H.out.rw H.out.wb⟩

set_option maxHeartbeats 1000000 in
theorem Buffered_any (c : BR) (bf : List UInt8) (r wi i : Nat) (er : Value) (lb ls : Int) (w : World) (h : BufAt c bf r wi i er lb ls w) :
    Calls Tryd.prog 43 #[.pointer (some ⟨c.R, 0, none⟩)] w fun e w' => e = .returned (.int .i64 ((wi - r : Nat) : Int)) ∧ ∃ m, w' = w.drewN m := by
  have q2 := h.rd.cell 2 _ rfl
  have q3 := h.rd.cell 3 _ rfl
  have hrw := h.rw
  have hwb := h.wb
  obtain ⟨q, hq⟩ : ∃ q, q = wi - r := ⟨_, rfl⟩
  have x1 : (wi : Int) - (r : Int) = (q : Int) := by omega
  have x2 : IntKind.i64.wrap (q : Int) = (q : Int) := IntWalk.i64_in _ (by omega)
  rw [← hq]
  clear h hq
  go_enter Tryd.func43, Tryd.ntmps43
  go_wp2_with fail
  go_quiet (fail)
  go_wp2_with fail
  go_ret
  exact ⟨rfl, nq, rfl⟩

/-- The reader stands, st is still to come. -/
def BufQ (c : BR) (st : List UInt8) (w : World) : Prop := ∃ bf r wi i lb ls, BufAt c bf r wi i .nilIface lb ls w ∧ bufQ bf r wi ++ c.data.drop i = st
/-- So, and the last byte x can be put back. -/
def BufU (c : BR) (x : UInt8) (st : List UInt8) (w : World) : Prop := ∃ bf r wi i ls, BufAt c bf (r + 1) wi i .nilIface (x.toNat : Int) ls w ∧ bufQ bf (r + 1) wi ++ c.data.drop i = st ∧ bf[r]? = some x
theorem BufU.q {c : BR} {x : UInt8} {st : List UInt8} {w : World} (h : BufU c x st w) : BufQ c st w := by
  obtain ⟨bf, r, wi, i, ls, h1, h2, _⟩ := h
  exact ⟨bf, r + 1, wi, i, _, ls, h1, h2⟩
theorem BufQ.only {c : BR} {st : List UInt8} {w w' : World} {L : List Nat} (h : BufQ c st w) (k : Only L w w') (hL : ∀ x, x ∈ L → x ∉ c.all) : BufQ c st w' := by
  obtain ⟨bf, r, wi, i, lb, ls, h1, h2⟩ := h
  exact ⟨bf, r, wi, i, lb, ls, h1.only k hL, h2⟩
theorem BufQ.below {c : BR} {st : List UInt8} {w w' : World} (h : BufQ c st w) (k : Below w.heap.size w w') : BufQ c st w' := h.only (Only.of_below k) (fun _ hx => by cases hx)

theorem bufQ_cons {bf : List UInt8} {r wi : Nat} {x : UInt8} (hx : bf[r]? = some x) (h : r < wi) : bufQ bf r wi = x :: bufQ bf (r + 1) wi := by
  obtain ⟨hr, hx⟩ := List.getElem?_eq_some_iff.1 hx
  unfold bufQ
  rw [List.drop_eq_getElem_cons hr, hx, show wi - r = (wi - (r + 1)) + 1 by omega, List.take_succ_cons]
theorem bufQ_nil (bf : List UInt8) (r : Nat) : bufQ bf r r = [] := by simp [bufQ]

/-- ReadByte where a byte is in the buffer. -/
def ByteOut (c : BR) (st : List UInt8) (w : World) (e : Ending) (w' : World) : Prop :=
  Only c.own w w' ∧ match st with
  | [] => e = .returned (.tuple #[.int .u8 0, eofV c.eof]) ∧ BufQ c [] w'
  | x :: t => e = .returned (.tuple #[.int .u8 (x.toNat : Int), .nilIface]) ∧ BufU c x t w'

set_option maxHeartbeats 4000000 in
set_option maxRecDepth 100000 in
theorem ReadByte_any (c : BR) (st : List UInt8) (w : World) (h : BufQ c st w) :
    Calls Tryd.prog 49 #[.pointer (some ⟨c.R, 0, none⟩)] w (ByteOut c st w) := by
  obtain ⟨bf, r, wi, i, lb, ls, h, hst⟩ := h
  have q2 := h.rd.cell 2 _ rfl
  have q3 := h.rd.cell 3 _ rfl
  have q6 := h.rd.cell 6 _ rfl
  have f6 := h.rd.free 6
  have hlt := h.rd.lt
  have H := hidF h
  have Hst := hidF hst
  have hrw := h.rw
  have hwb := h.wb
  clear h hst
  by_cases hr : r < wi
  · have b1 : ((r : Int) == (wi : Int)) = false := beq_eq_false_iff_ne.2 (by omega)
    go_enter Tryd.func49, Tryd.ntmps49
    go_wp2_with fail
    have HB1 := hidF (H.out.setR (r' := r) (wi' := wi) (er' := .nilIface) (lb' := lb) (ls' := -1) 6 (.int .i64 (-1)) rfl hrw hwb)
    have HO1 := hidF (show Only c.own w (w.setCell ⟨c.R, 6, none⟩ (.int .i64 (-1))) from BufAt.onlySet 6 _)
    clear q2 q3 q6 f6 hlt
    generalize w.setCell ⟨c.R, 6, none⟩ (.int .i64 (-1)) = w1 at HB1 HO1 ⊢
    have q2 := HB1.out.rd.cell 2 _ rfl
    have q3 := HB1.out.rd.cell 3 _ rfl
    refine wp_loop_rounds 1 ?_
    rw [rounds_succ]
    go_wp2_with fail
    go_quiet (fail)
    have Hst2 := Hst
    have HB2 := hidF (HB1.out.drewN nq)
    have HO2 := hidF (HO1.out.trans (Only.drewN c.own w1 nq))
    clear HB1 HO1 q2 q3
    generalize w1.drewN nq = w2 at HB2 HO2 ⊢
    have q0 := HB2.out.rd.cell 0 _ rfl
    have q2 := HB2.out.rd.cell 2 _ rfl
    have hbl : r < bf.length := by rw [HB2.out.len]; omega
    obtain ⟨x, hx⟩ : ∃ x, x = bf[r] := ⟨_, rfl⟩
    have hxr : bf[r]? = some x := by rw [hx, List.getElem?_eq_getElem]
    have qx := HB2.out.bb.cell r (.int .u8 (x.toNat : Int)) (by unfold Lib.byteCells; rw [List.getElem?_map, hxr]; rfl)
    have HX := hidF hxr
    have b2 : (r : Int) < 4096 := by omega
    have b3 : IntKind.i64.wrap ((r : Int) + 1) = ((r + 1 : Nat) : Int) := by rw [IntWalk.i64_in _ (by omega)]; omega
    have hx8 := x.toNat_lt
    have b4 : IntKind.i64.wrap (x.toNat : Int) = (x.toNat : Int) := IntWalk.i64_in _ (by omega)
    clear hx hxr hbl
    go_wp2_with fail
    go_quiet (fail)
    have HB3 := hidF (HB2.out.drewN nq)
    have HO3 := hidF (HO2.out.trans (Only.drewN c.own w2 nq))
    clear HB2 HO2 q0 q2 qx
    generalize w2.drewN nq = w3 at HB3 HO3 ⊢
    have q2 := HB3.out.rd.cell 2 _ rfl
    have f2 := HB3.out.rd.free 2
    have q5 := HB3.out.rd.cell 5 _ rfl
    have f5 := HB3.out.rd.free 5
    have hlt := HB3.out.rd.lt
    go_wp2_with fail
    go_ret2
    have hst : st = x :: (bufQ bf (r + 1) wi ++ c.data.drop i) := by rw [← Hst2.out, bufQ_cons HX.out (by omega)]; rfl
    rw [hst]
    exact ⟨HO3.out.trans ((BufAt.onlySet 2 _).trans (BufAt.onlySet 5 _)), rfl, bf, r, wi, i, _, HB3.out.reR ((Only.set _ _ _ _).trans (Only.set _ _ _ _)) ((HB3.out.rd.set 2 (.int .i64 ((r + 1 : Nat) : Int))).set 5 _) (by omega) HB3.out.wb, rfl, HX.out⟩
  · obtain rfl : r = wi := by omega
    go_enter Tryd.func49, Tryd.ntmps49
    go_wp2_with fail
    have HB0 := hidF (H.out.setR (r' := r) (wi' := r) (er' := .nilIface) (lb' := lb) (ls' := -1) 6 (.int .i64 (-1)) rfl hrw hwb)
    have HO0 := hidF (show Only c.own w (w.setCell ⟨c.R, 6, none⟩ (.int .i64 (-1))) from BufAt.onlySet 6 _)
    clear q2 q3 q6 f6 hlt
    generalize w.setCell ⟨c.R, 6, none⟩ (.int .i64 (-1)) = w0 at HB0 HO0 ⊢
    have q2 := HB0.out.rd.cell 2 _ rfl
    have q3 := HB0.out.rd.cell 3 _ rfl
    refine wp_loop_rounds 2 ?_
    rw [rounds_succ]
    go_wp2_with fail
    go_quiet (fail)
    have HB0b := hidF (HB0.out.drewN nq)
    have HO0b := hidF (HO0.out.trans (Only.drewN c.own w0 nq))
    clear HB0 HO0 q2 q3
    generalize w0.drewN nq = w0b at HB0b HO0b ⊢
    have q4 := HB0b.out.rd.cell 4 _ rfl
    have hfill := hidF (fill_any c bf r r i lb (-1) w0b HB0b.out (by omega))
    go_wp2_with fail
    refine hfill.out.mono ?_
    rintro e w1 ⟨rfl, k1, bf', i', er', hB1, hii, hq1, hcase⟩
    have HO1 := hidF (HO0b.out.trans k1)
    clear hfill HB0b HO0b q4 k1
    rw [Nat.sub_self, Nat.zero_add] at hB1 hq1
    rw [bufQ_nil, List.nil_append] at hq1
    rcases hcase with ⟨rfl, hil, rfl⟩ | ⟨hlt2, rfl⟩
    · rw [Nat.sub_self] at hB1
      have HB1 := hidF hB1
      have q2 := hB1.rd.cell 2 _ rfl
      have q3 := hB1.rd.cell 3 _ rfl
      have hre := hidF (fun n => readErr_any c bf' 0 0 i' (eofV c.eof) lb (-1) (w1.drewN n) (hB1.drewN n))
      have HE := hidF (show st = [] by
        rw [← Hst.out, bufQ_nil, List.nil_append, hil, List.drop_length])
      have HIL := hidF hil
      have q4 := hB1.rd.cell 4 _ rfl
      unfold eofV at q4 hre
      clear hB1 hq1 hii hil
      go_wp2_with fail
      rw [rounds_succ]
      go_wp2_with fail
      go_quiet (fail)
      go_wp2_with fail
      refine (hre.out _).mono ?_
      rintro e w2 ⟨rfl, k2, hB2⟩
      have HB2 := hidF hB2
      have HO2 := hidF ((HO1.out.trans (Only.drewN c.own w1 nq)).trans k2)
      clear hB2 k2 hre q2 q3 q4
      go_wp2_with fail
      go_ret2
      rw [HE.out]
      exact ⟨HO2.out, rfl, bf', 0, 0, i', lb, -1, HB2.out, by rw [bufQ_nil, List.nil_append, HIL.out, List.drop_length]⟩
    · obtain ⟨d, hd⟩ : ∃ d, d = i' - i := ⟨_, rfl⟩
      rw [← hd] at hB1 hq1
      have hd0 : 0 < d := by omega
      have hil' := hB1.il
      have HB1 := hidF hB1
      have hwb1 := hB1.wb
      have Hst2 := hidF (show bufQ bf' 0 d ++ c.data.drop i' = st by
        rw [← Hst.out, bufQ_nil, List.nil_append, hq1]
        have : c.data.drop i' = (c.data.drop i).drop d := by rw [List.drop_drop, show i + d = i' by omega]
        rw [this, List.take_append_drop])
      have b1 : ((0 : Int) == (d : Int)) = false := beq_eq_false_iff_ne.2 (by omega)
      have q2 := hB1.rd.cell 2 _ rfl
      have q3 := hB1.rd.cell 3 _ rfl
      clear hd hB1 hq1 hii hlt2 hil'
      go_wp2_with fail
      rw [rounds_succ]
      go_wp2_with fail
      go_quiet (fail)
      have HB2 := hidF (HB1.out.drewN nq)
      have HO2 := hidF (HO1.out.trans (Only.drewN c.own w1 nq))
      clear HB1 HO1 q2 q3
      generalize w1.drewN nq = w2 at HB2 HO2 ⊢
      have q0 := HB2.out.rd.cell 0 _ rfl
      have q2 := HB2.out.rd.cell 2 _ rfl
      have hbl : 0 < bf'.length := by rw [HB2.out.len]; omega
      obtain ⟨x, hx⟩ : ∃ x, x = bf'[0] := ⟨_, rfl⟩
      have hxr : bf'[0]? = some x := by rw [hx, List.getElem?_eq_getElem]
      have qx := HB2.out.bb.cell 0 (.int .u8 (x.toNat : Int)) (by unfold Lib.byteCells; rw [List.getElem?_map, hxr]; rfl)
      have HX := hidF hxr
      have b2 : (0 : Int) < 4096 := by omega
      have b3 : IntKind.i64.wrap ((0 : Int) + 1) = ((0 + 1 : Nat) : Int) := by rw [IntWalk.i64_in _ (by omega)]; omega
      have hx8 := x.toNat_lt
      have b4 : IntKind.i64.wrap (x.toNat : Int) = (x.toNat : Int) := IntWalk.i64_in _ (by omega)
      clear hx hxr hbl
      go_wp2_with fail
      go_quiet (fail)
      have HB3 := hidF (HB2.out.drewN nq)
      have HO3 := hidF (HO2.out.trans (Only.drewN c.own w2 nq))
      clear HB2 HO2 q0 q2 qx
      generalize w2.drewN nq = w3 at HB3 HO3 ⊢
      have q2 := HB3.out.rd.cell 2 _ rfl
      have f2 := HB3.out.rd.free 2
      have q5 := HB3.out.rd.cell 5 _ rfl
      have f5 := HB3.out.rd.free 5
      have hlt := HB3.out.rd.lt
      go_wp2_with fail
      go_ret2
      have hst : st = x :: (bufQ bf' (0 + 1) d ++ c.data.drop i') := by rw [← Hst2.out, bufQ_cons HX.out (by omega)]; rfl
      rw [hst]
      exact ⟨HO3.out.trans ((BufAt.onlySet 2 _).trans (BufAt.onlySet 5 _)), rfl, bf', 0, d, i', _, HB3.out.reR ((Only.set _ _ _ _).trans (Only.set _ _ _ _)) ((HB3.out.rd.set 2 (.int .i64 ((0 + 1 : Nat) : Int))).set 5 _) (by omega) HB3.out.wb, rfl, HX.out⟩
end Go.Proofs.YtddnjdapdcopgaaDoor
