/- bufio's Read into a new row of 512 bytes: the walk. -/
import Derived.Test.YtddnjdapdcopgaaDoorRmsg
namespace Go.Proofs.YtddnjdapdcopgaaDoor
open Go.RowKit

set_option maxHeartbeats 8000000 in
set_option maxRecDepth 100000 in
theorem read_have (c : BR) (bf : List UInt8) (r wi i : Nat) (lb ls : Int) (G : Nat) (w : World) (h : BufAt c bf r wi i .nilIface lb ls w) (hr : r < wi) (hg : Ob w G 5 (Lib.byteCells (nulls 512))) (hG : G ∉ c.all) :
    Calls Tryd.prog 71 #[.pointer (some ⟨c.R, 0, none⟩), .slice (some ⟨G, 0, none⟩) 512 512] w fun e w' =>
      ∃ n lb', n = Nat.min (wi - r) 512 ∧ e = .returned (.tuple #[.int .i64 (n : Int), .nilIface]) ∧ BufAt c bf (r + n) wi i .nilIface lb' (-1) w' ∧ Only (G :: c.own) w w' ∧ Ob w' G 5 (Lib.byteCells (splice (nulls 512) 0 ((bufQ bf r wi).take n))) := by
  have q0 := h.rd.cell 0 _ rfl
  have q2 := h.rd.cell 2 _ rfl
  have q3 := h.rd.cell 3 _ rfl
  have hlt := h.rd.lt
  have H := hidF h
  have hrw := h.rw
  have hwb := h.wb
  have HG := hidF hg
  have HGn := hidF hG
  have e1 : ((r : Int) == (wi : Int)) = false := beq_eq_false_iff_ne.2 (by omega)
  clear h hg hG
  go_enter Tryd.func71, Tryd.ntmps71
  go_wp2_with fail
  go_quiet (fail)
  have HB2 := hidF (H.out.drewN nq)
  have HG2 := hidF (HG.out.drewN nq)
  have HO2 := hidF (Only.drewN (G :: c.own) w nq)
  clear q0 q2 q3 hlt
  generalize w.drewN nq = w2 at HB2 HG2 HO2 ⊢
  have q0 := HB2.out.rd.cell 0 _ rfl
  have q2 := HB2.out.rd.cell 2 _ rfl
  have q3 := HB2.out.rd.cell 3 _ rfl
  have hlt := HB2.out.rd.lt
  have y1 : (r : Int) ≤ (wi : Int) := by omega
  have y2 : (wi : Int) ≤ 4096 := by omega
  have y3 : r < 4096 := by omega
  obtain ⟨n, hn⟩ : ∃ n, n = Nat.min (wi - r) 512 := ⟨_, rfl⟩
  have HN := hidF hn
  have hnb : 1 ≤ n ∧ n ≤ 512 ∧ n ≤ wi - r := by
    rw [hn]
    refine ⟨?_, Nat.min_le_right _ _, Nat.min_le_left _ _⟩
    show 1 ≤ min _ _
    omega
  have HNB := hidF hnb
  have hbl : (bufQ bf r wi).length = wi - r := bufQ_len H.out.len hwb
  have hcs : (Lib.byteCells ((bufQ bf r wi).take n)).length = n := by rw [bc_len, List.length_take, hbl]; omega
  have Hc1 := hidF (show (Lib.byteCells ((bufQ bf r wi).take n)).length = Nat.min (wi - r) 512 from hcs.trans hn)
  have HB3 := hidF (HB2.out.drewN 1)
  have HG3 := hidF (HG2.out.drewN 1)
  have Hc2 := hidF (show ∀ sp : Option Addr, (r < 4096 → sp = some ⟨c.F, r, none⟩) → 0 < (Lib.byteCells ((bufQ bf r wi).take n)).length → ∃ ad, sp = some ad ∧ ∀ j v, (Lib.byteCells ((bufQ bf r wi).take n))[j]? = some v → w2.drew.cell? (ad.add j) = some v from (by
    intro sp hsp hp
    refine ⟨_, hsp y3, fun j v hj => ?_⟩
    have hjm : j < n := by have := (List.getElem?_eq_some_iff.1 hj).1; omega
    rw [show (⟨c.F, r, none⟩ : Addr).add j = ⟨c.F, r + j, none⟩ from by unfold Addr.add; split <;> simp_all]
    refine HB3.out.bb.cell _ _ ?_
    rw [← hj]
    unfold Lib.byteCells bufQ
    rw [List.getElem?_map, List.getElem?_map, List.getElem?_take, if_pos hjm, List.getElem?_take, if_pos (by omega), List.getElem?_drop]))
  have Hc3 := hidF (show 0 + (Lib.byteCells ((bufQ bf r wi).take n)).length ≤ (Lib.byteCells (nulls 512)).length from by rw [hcs, bc_len, nulls_length]; omega)
  have Hc4 := hidF (show ∀ v ∈ Lib.byteCells ((bufQ bf r wi).take n), v.oneCell' = true from fun v hv => by unfold Lib.byteCells at hv; obtain ⟨c, _, rfl⟩ := List.mem_map.1 hv; rfl)
  have Hcm := hidF hcs
  obtain ⟨r2, hr2⟩ : ∃ r2, r2 = r + n := ⟨_, rfl⟩
  obtain ⟨j, hj⟩ : ∃ j, j = r + n - 1 := ⟨_, rfl⟩
  have hjl : j < bf.length := by rw [H.out.len]; omega
  obtain ⟨xj, hxj⟩ : ∃ x, x = bf[j] := ⟨_, rfl⟩
  have Hxj := hidF (show bf[j]? = some xj by rw [hxj, List.getElem?_eq_getElem])
  have z1 : IntKind.i64.wrap ((r : Int) + (n : Int)) = (r2 : Int) := by rw [IntWalk.i64_in _ (by omega)]; omega
  have z2 : IntKind.i64.wrap ((r2 : Int) - 1) = (j : Int) := by rw [IntWalk.i64_in _ (by omega)]; omega
  have z3 : (j : Int) < 4096 := by have := H.out.len; omega
  have z4 : j < 4096 := by omega
  have hRF := H.out.ok.rf
  have hFR := hRF.symm
  have Hr2 := hidF hr2
  have Hj := hidF hj
  clear hcs hn hnb hbl hr2 hj hjl hxj
  go_wp2_with fail
  go_still_tail 14, (by kernel_rfl)
  change wpList _ _ _ _ _ w2.drew
  go_wp2_with (refine wpList_copy_ob rfl (.tmp 109) (.tmp 122) 22 22 rfl 5 (by kernel_rfl) (by kernel_rfl) G 0 512 512 _ (wi - r) _ rfl rfl (Lib.byteCells (nulls 512)) _ HG3.out (Lib.byteCells ((bufQ bf r wi).take n)) Hc1.out (Hc2.out _ (by intro _; first | rfl | (exact if_neg (by omega)))) Hc3.out Hc4.out ?_; intro w4 hob hgr; rw [Hcm.out]; have HOB := hidF hob.out; have HGR := hidF hgr.out; have HB4 := hidF (HB3.out.only (Only.of_grown hgr.out) (fun x hx h2 => by obtain rfl := List.mem_singleton.1 hx; exact HGn.out h2)); have q0' := HB4.out.rd.cell 0 _ rfl; have q2' := HB4.out.rd.cell 2 _ rfl; have q5' := HB4.out.rd.cell 5 _ rfl; have q6' := HB4.out.rd.cell 6 _ rfl; have f2' := HB4.out.rd.free 2; have f5' := HB4.out.rd.free 5; have f6' := HB4.out.rd.free 6; have hlt4 := HB4.out.rd.lt; have cF := buf_cell HB4.out Hxj.out; clear hob hgr)
  have HB5 := hidF (show BufAt c bf r2 wi i .nilIface lb ls (w4.setCell ⟨c.R, 2, none⟩ (.int .i64 (r2 : Int))) from HB4.out.setR 2 _ rfl (by have := HNB.out; have := Hr2.out; omega) hwb)
  have HO5 := hidF (show Only (G :: c.own) w (w4.setCell ⟨c.R, 2, none⟩ (.int .i64 (r2 : Int))) from HO2.out.trans ((Only.drewN _ w2 1).trans (((Only.of_grown HGR.out).mono (by simp)).trans ((BufAt.onlySet (c := c) 2 _).mono (fun x hx => by simp [hx])))))
  have HG5 := hidF (show Ob (w4.setCell ⟨c.R, 2, none⟩ (.int .i64 (r2 : Int))) G 5 (Lib.byteCells (splice (nulls 512) 0 ((bufQ bf r wi).take n))) from by
    have h1 := HOB.out
    rw [bc_splice] at h1
    exact h1.only (Only.set _ c.R 2 _) (fun hx => HGn.out (by rw [List.mem_singleton.1 hx]; simp [BR.all])))
  clear q0' q2' q5' q6' f2' f5' f6' hlt4 cF HB4 HOB HGR q0 q2 q3 hlt
  generalize w4.setCell ⟨c.R, 2, none⟩ (.int .i64 (r2 : Int)) = w5 at HB5 HO5 HG5 ⊢
  have q0 := HB5.out.rd.cell 0 _ rfl
  have q2 := HB5.out.rd.cell 2 _ rfl
  have cF := buf_cell HB5.out Hxj.out
  go_still_tail 13, (by kernel_rfl)
  change wpList _ _ _ _ _ w5.drew
  have HB6 := hidF (HB5.out.drewN 1)
  have HO6 := hidF (HO5.out.trans (Only.drewN _ w5 1))
  have HG6 := hidF (HG5.out.drewN 1)
  clear q0 q2 cF HB5 HO5 HG5
  change Hid (BufAt _ _ _ _ _ _ _ _ w5.drew) at HB6
  change Hid (Only _ _ w5.drew) at HO6
  change Hid (Ob w5.drew _ _ _) at HG6
  generalize w5.drew = w6 at HB6 HO6 HG6 ⊢
  have f5 := HB6.out.rd.free 5
  have f6 := HB6.out.rd.free 6
  have q5 := HB6.out.rd.cell 5 _ rfl
  have q6 := HB6.out.rd.cell 6 _ rfl
  have hlt := HB6.out.rd.lt
  go_wp2_with fail
  go_ret2
  have hr2 : r2 = r + n := Hr2.out
  have hBf : BufAt c bf (r + n) wi i .nilIface (wrap64 ((xj.toNat : Nat) : Int)) (-1) ((w6.setCell ⟨c.R, 5, none⟩ (.int .i64 (wrap64 ((xj.toNat : Nat) : Int)))).setCell ⟨c.R, 6, none⟩ (.int .i64 (-1))) := by
    rw [← hr2]
    exact (HB6.out.setR 5 _ rfl HB6.out.rw HB6.out.wb).setR 6 _ rfl HB6.out.rw HB6.out.wb
  exact ⟨n, _, HN.out, rfl, hBf, HO6.out.trans (((BufAt.onlySet (c := c) 5 _).trans (BufAt.onlySet (c := c) 6 _)).mono (fun x hx => by simp [hx])),
    (HG6.out.only (Only.set _ c.R 5 _) (fun hx => HGn.out (by rw [List.mem_singleton.1 hx]; simp [BR.all]))).only (Only.set _ c.R 6 _) (fun hx => HGn.out (by rw [List.mem_singleton.1 hx]; simp [BR.all]))⟩
end Go.Proofs.YtddnjdapdcopgaaDoor
