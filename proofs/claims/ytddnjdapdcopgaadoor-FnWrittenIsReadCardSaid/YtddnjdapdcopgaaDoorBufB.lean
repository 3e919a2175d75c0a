/- bufio's UnreadByte and Peek: the walks. -/
import Derived.Test.YtddnjdapdcopgaaDoorBufA
namespace Go.Proofs.YtddnjdapdcopgaaDoor
open Go.RowKit

theorem bc_set_same {bf : List UInt8} {r : Nat} {x : UInt8} (h : bf[r]? = some x) : (Lib.byteCells bf).set r (.int .u8 (x.toNat : Int)) = Lib.byteCells bf := by
  apply List.ext_getElem?
  intro j
  by_cases hj : r = j
  · subst hj
    have hl : r < (Lib.byteCells bf).length := by rw [bc_len]; exact (List.getElem?_eq_some_iff.1 h).1
    rw [List.getElem?_set_self hl]
    unfold Lib.byteCells
    rw [List.getElem?_map, h]; rfl
  · rw [List.getElem?_set_ne hj]

set_option maxHeartbeats 4000000 in
set_option maxRecDepth 100000 in
theorem UnreadByte_any (c : BR) (x : UInt8) (st : List UInt8) (w : World) (h : BufU c x st w) :
    Calls Tryd.prog 50 #[.pointer (some ⟨c.R, 0, none⟩)] w fun e w' => e = .returned .nilIface ∧ Only c.own w w' ∧ BufQ c (x :: st) w' := by
  obtain ⟨bf, r, wi, i, ls, h, hst, hx⟩ := h
  have q2 := h.rd.cell 2 _ rfl
  have f2 := h.rd.free 2
  have q3 := h.rd.cell 3 _ rfl
  have q5 := h.rd.cell 5 _ rfl
  have hlt := h.rd.lt
  have hrw := h.rw
  have hwb := h.wb
  have H := hidF h
  have Hst := hidF hst
  have HX := hidF hx
  have hx8 := x.toNat_lt
  have b0 : ¬ (x.toNat : Int) < 0 := by omega
  have b1 : (((r + 1 : Nat) : Int) == 0) = false := beq_eq_false_iff_ne.2 (by omega)
  have b2 : (0 : Int) < ((r + 1 : Nat) : Int) := by omega
  obtain ⟨k, hk⟩ : ∃ k, k = r + 1 := ⟨_, rfl⟩
  have b3 : (k : Int) - 1 = (r : Int) := by omega
  have b4 : IntKind.i64.wrap (r : Int) = (r : Int) := IntWalk.i64_in _ (by omega)
  have b5 : IntKind.u8.wrap (x.toNat : Int) = (x.toNat : Int) := IntWalk.u8_in _ (by omega)
  have b6 : (r : Int) < 4096 := by omega
  rw [← hk] at q2 b1 b2 H hrw
  have HK := hidF hk
  clear h hst hx hk
  go_enter Tryd.func50, Tryd.ntmps50
  go_wp2_with fail
  have HB1 := hidF (H.out.setR (r' := r) (wi' := wi) (er' := .nilIface) (lb' := (x.toNat : Int)) (ls' := ls) 2 (.int .i64 (r : Int)) rfl (by have := HK.out; omega) hwb)
  have HO1 := hidF (show Only c.own w (w.setCell ⟨c.R, 2, none⟩ (.int .i64 (r : Int))) from BufAt.onlySet 2 _)
  clear q2 f2 q3 q5 hlt
  generalize w.setCell ⟨c.R, 2, none⟩ (.int .i64 (r : Int)) = w1 at HB1 HO1 ⊢
  have q0 := HB1.out.rd.cell 0 _ rfl
  have q2 := HB1.out.rd.cell 2 _ rfl
  have q5 := HB1.out.rd.cell 5 _ rfl
  go_still_tail 14, (by kernel_rfl)
  change wpList _ _ _ _ _ w1.drew
  have HB2 := hidF (show BufAt c bf r wi i .nilIface (x.toNat : Int) ls w1.drew from HB1.out.drewN 1)
  have HO2 := hidF (show Only c.own w w1.drew from HO1.out.trans (Only.drewN c.own w1 1))
  clear HB1 HO1 q0 q2 q5
  generalize w1.drew = w2 at HB2 HO2 ⊢
  have qx := HB2.out.bb.cell r (.int .u8 (x.toNat : Int)) (by unfold Lib.byteCells; rw [List.getElem?_map, HX.out]; rfl)
  have fx := HB2.out.bb.free r
  have hltF := HB2.out.bb.lt
  have q5 := HB2.out.rd.cell 5 _ rfl
  have f5 := HB2.out.rd.free 5
  have q6 := HB2.out.rd.cell 6 _ rfl
  have f6 := HB2.out.rd.free 6
  have hltR := HB2.out.rd.lt
  have hne : ¬ c.F = c.R := fun e => HB2.out.ok.rf e.symm
  have hne2 : ¬ c.R = c.F := HB2.out.ok.rf
  go_wp2_with fail
  go_ret
  have hB3 : BufAt c bf r wi i .nilIface (x.toNat : Int) ls (w2.setCell ⟨c.F, r, none⟩ (.int .u8 (x.toNat : Int))) := by
    have k := Only.set w2 c.F r (.int .u8 (x.toNat : Int))
    obtain ⟨pv, hs⟩ := HB2.out.sr
    refine HB2.out.put (k.mono (by simp [BR.own])) (HB2.out.rd.only k (by simp [HB2.out.ok.rf])) ?_ ⟨pv, hs.only k (by simp [HB2.out.ok.fs.symm])⟩ HB2.out.len HB2.out.rw HB2.out.wb HB2.out.il
    have := HB2.out.bb.set r (.int .u8 (x.toNat : Int))
    rw [bc_set_same HX.out] at this
    exact this
  refine ⟨rfl, HO2.out.trans (((Only.set w2 c.F r _).mono (by simp [BR.own])).trans ((BufAt.onlySet 5 _).trans (BufAt.onlySet 6 _))), bf, r, wi, i, -1, -1, hB3.reR ((Only.set _ _ _ _).trans (Only.set _ _ _ _)) ((hB3.rd.set 5 _).set 6 _) hB3.rw hB3.wb, ?_⟩
  have hk := HK.out
  rw [bufQ_cons HX.out (by omega), ← Hst.out]
  rfl
end Go.Proofs.YtddnjdapdcopgaaDoor
