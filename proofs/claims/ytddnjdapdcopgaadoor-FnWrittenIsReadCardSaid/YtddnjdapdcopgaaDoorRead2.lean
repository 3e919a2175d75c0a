/- bufio's Read into a new row of 512 bytes, with nothing in the buffer: the walk. -/
import Derived.Test.YtddnjdapdcopgaaDoorRead
namespace Go.Proofs.YtddnjdapdcopgaaDoor
open Go.RowKit

set_option maxHeartbeats 8000000 in
set_option maxRecDepth 100000 in
theorem read_empty (c : BR) (bf : List UInt8) (r i : Nat) (lb ls : Int) (G : Nat) (w : World) (h : BufAt c bf r r i .nilIface lb ls w) (hg : Ob w G 5 (Lib.byteCells (nulls 512))) (hG : G ∉ c.all) :
    Calls Tryd.prog 71 #[.pointer (some ⟨c.R, 0, none⟩), .slice (some ⟨G, 0, none⟩) 512 512] w fun e w' =>
      (c.data.drop i = [] ∧ e = .returned (.tuple #[.int .i64 0, eofV c.eof]) ∧ BufQ c [] w' ∧ Only c.own w w') ∨
      (∃ n, 0 < n ∧ n ≤ (c.data.drop i).length ∧ n ≤ 512 ∧ e = .returned (.tuple #[.int .i64 (n : Int), .nilIface]) ∧ BufQ c ((c.data.drop i).drop n) w' ∧ Only (G :: c.own) w w' ∧ Ob w' G 5 (Lib.byteCells (splice (nulls 512) 0 ((c.data.drop i).take n)))) := by
  have q0 := h.rd.cell 0 _ rfl
  have q2 := h.rd.cell 2 _ rfl
  have q3 := h.rd.cell 3 _ rfl
  have q4 := h.rd.cell 4 _ rfl
  have hlt := h.rd.lt
  have H := hidF h
  have hrw := h.rw
  have hwb := h.wb
  have HG := hidF hg
  have HGn := hidF hG
  have e1 : ((r : Int) == (r : Int)) = true := beq_self_eq_true _
  clear h hg hG
  go_enter Tryd.func71, Tryd.ntmps71
  go_wp2_with fail
  go_quiet (fail)
  have HB2 := hidF (H.out.drewN nq)
  have HG2 := hidF (HG.out.drewN nq)
  have HO2 := hidF (Only.drewN c.own w nq)
  clear q0 q2 q3 q4 hlt
  generalize w.drewN nq = w2 at HB2 HG2 HO2 ⊢
  have q0 := HB2.out.rd.cell 0 _ rfl
  have q1 := HB2.out.rd.cell 1 _ rfl
  have q2 := HB2.out.rd.cell 2 _ rfl
  have q3 := HB2.out.rd.cell 3 _ rfl
  have q4 := HB2.out.rd.cell 4 _ rfl
  have f2 := HB2.out.rd.free 2
  have f3 := HB2.out.rd.free 3
  have f4 := HB2.out.rd.free 4
  have hlt := HB2.out.rd.lt
  have hme := fun w => method_rd ⟨c.S, 0, none⟩ w
  go_wp2_with fail
  have HB3 := hidF (show BufAt c bf 0 0 i .nilIface lb ls ((w2.setCell ⟨c.R, 2, none⟩ (.int .i64 0)).setCell ⟨c.R, 3, none⟩ (.int .i64 0)) from HB2.out.reR ((Only.set _ _ _ _).trans (Only.set _ _ _ _)) ((HB2.out.rd.set 2 _).set 3 _) (Nat.le_refl _) (by omega))
  have HO3 := hidF (HO2.out.trans ((BufAt.onlySet 2 (.int .i64 0)).trans (BufAt.onlySet (c := c) 3 (.int .i64 0))))
  have HG3 := hidF ((HG2.out.only (Only.set _ c.R 2 (.int .i64 0)) (fun hx => HGn.out (by rw [List.mem_singleton.1 hx]; simp [BR.all]))).only (Only.set _ c.R 3 (.int .i64 0)) (fun hx => HGn.out (by rw [List.mem_singleton.1 hx]; simp [BR.all])))
  clear q0 q1 q2 q3 q4 f2 f3 f4 hlt HB2 HO2 HG2
  generalize (w2.setCell ⟨c.R, 2, none⟩ (.int .i64 0)).setCell ⟨c.R, 3, none⟩ (.int .i64 0) = w3 at HB3 HO3 HG3 ⊢
  have q0 := HB3.out.rd.cell 0 _ rfl
  have q1 := HB3.out.rd.cell 1 _ rfl
  have HB7 := hidF (show BufAt c bf 0 0 i .nilIface lb ls w3.drew from HB3.out.drewN 1)
  have HO7 := hidF (show Only c.own w w3.drew from HO3.out.trans (Only.drewN _ _ 1))
  have HG7 := hidF (show Ob w3.drew G 5 (Lib.byteCells (nulls 512)) from HG3.out.drewN 1)
  obtain ⟨pv, hs⟩ := HB7.out.sr
  have HS7 := hidF hs
  clear hs
  have hil := HB7.out.il
  obtain ⟨len, hlen⟩ : ∃ len, len = c.data.length := ⟨_, rfl⟩
  rw [← hlen] at hil HS7
  have HL := hidF hlen
  clear hlen
  by_cases hend : i = len
  · have hcall := hidF (bytesRead_end c.S len c.scap i c.p pv c.eof (.slice (some ⟨c.F, 0, none⟩) 4096 4096) w3.drew HS7.out (by omega) (by have := HB7.out.ok.small; have := HL.out; omega) HB7.out.eo)
    unfold eofV at hcall
    go_region_held3 (fun w' => w'.cell? ⟨c.R, 0, none⟩ = some (.slice (some ⟨c.F, 0, none⟩) 4096 4096) ∧ w'.cell? ⟨c.R, 1, none⟩ = some (.iface 46 (.pointer (some ⟨c.S, 0, none⟩)))) (first | exact ⟨q0, q1⟩ | exact ⟨q0', q1'⟩ | exact ⟨q0s, q1s⟩) ((first | (go_at_call 69; refine hcall.out.mono ?_; rintro e w8 ⟨rfl, k8⟩; have HB8 := hidF (HB7.out.only k8 (fun _ hx => by cases hx)); have K8 := hidF k8; have q0' := HB8.out.rd.cell 0 _ rfl; have q1' := HB8.out.rd.cell 1 _ rfl; have q4' := HB8.out.rd.cell 4 _ rfl; have f4' := HB8.out.rd.free 4; have hlt8 := HB8.out.rd.lt; have q0s := (HB8.out.rd.set 4 (.iface 89 (.pointer (some c.eof)))).cell 0 _ rfl; have q1s := (HB8.out.rd.set 4 (.iface 89 (.pointer (some c.eof)))).cell 1 _ rfl; clear k8)))
    have HB9 := hidF (show BufAt c bf 0 0 i (eofV c.eof) lb ls (w8.setCell ⟨c.R, 4, none⟩ (.iface 89 (.pointer (some c.eof)))) from HB8.out.reR (Only.set _ _ _ _) (HB8.out.rd.set 4 _) (Nat.le_refl _) (by omega))
    have HO9 := hidF (show Only c.own w (w8.setCell ⟨c.R, 4, none⟩ (.iface 89 (.pointer (some c.eof)))) from (HO7.out.trans (K8.out.mono (fun _ hx => by cases hx))).trans (BufAt.onlySet 4 _))
    clear q0 q1 q0' q1' q0s q1s q4' f4' hlt8 HB8 K8 hcall
    generalize w8.setCell ⟨c.R, 4, none⟩ (.iface 89 (.pointer (some c.eof))) = w9 at HB9 HO9 ⊢
    have hre := hidF (readErr_any c bf 0 0 i (eofV c.eof) lb ls w9 HB9.out)
    unfold eofV at hre
    go_wp2_with fail
    refine hre.out.mono ?_
    rintro e w10 ⟨rfl, k10, hB10⟩
    have hdn : c.data.drop i = [] := List.drop_eq_nil_of_le (by have := HL.out; omega)
    have HF := hidF (And.intro (show BufQ c [] w10 from ⟨bf, 0, 0, i, lb, ls, hB10, by rw [hdn]; simp [bufQ]⟩) (show Only c.own w w10 from HO9.out.trans k10))
    have HD := hidF hdn
    clear k10 hB10 hre hdn
    go_wp2_with fail
    go_ret2
    exact .inl ⟨HD.out, rfl, HF.out.1, HF.out.2⟩
  · have hdne : c.data ≠ [] := fun e => by have := HL.out; rw [e] at this; simp at this; omega
    have hp := HB7.out.ok.hp hdne
    obtain ⟨m, hm⟩ : ∃ m, m = Nat.min (c.data.length - i) 4096 := ⟨_, rfl⟩
    have hm1 : 1 ≤ m ∧ m ≤ 4096 ∧ m ≤ len - i := by rw [hm, ← HL.out]; exact ⟨Nat.le_min.2 ⟨by omega, by omega⟩, Nat.min_le_right _ _, Nat.min_le_left _ _⟩
    have hcall := hidF (bytesRead_more c.S c.D c.F 0 4096 4096 c.scap i m c.data pv 5 (Lib.byteCells bf) w3.drew (by have := HS7.out; rw [hp, HL.out] at this; exact this) (by rw [← HL.out]; omega) HB7.out.ok.cap HB7.out.ok.small HB7.out.dat HB7.out.bb HB7.out.ok.fs HB7.out.ok.df.symm HB7.out.ok.ds.symm (Nat.le_refl _) (by omega) (by rw [bc_len, HB7.out.len]; omega) hm)
    have Hp := hidF hp
    have z0 : ¬ (m : Int) < 0 := by omega
    have z1 : ((m : Int) == 0) = false := beq_eq_false_iff_ne.2 (by omega)
    have z4 : IntKind.i64.wrap (m : Int) = (m : Int) := IntWalk.i64_in _ (by omega)
    clear hp hm hdne
    go_region_held3 (fun w' => w'.cell? ⟨c.R, 0, none⟩ = some (.slice (some ⟨c.F, 0, none⟩) 4096 4096) ∧ w'.cell? ⟨c.R, 1, none⟩ = some (.iface 46 (.pointer (some ⟨c.S, 0, none⟩)))) (first | exact ⟨q0, q1⟩ | exact ⟨q0', q1'⟩ | exact ⟨q0s, q1s⟩) ((first | (go_at_call 69; refine hcall.out.mono ?_; rintro e w8 ⟨rfl, hs8, hf8, k8⟩; have hr8 := HB7.out.rd.only k8 (by simp [HB7.out.ok.rs, HB7.out.ok.rf]); have q0' := hr8.cell 0 _ rfl; have q1' := hr8.cell 1 _ rfl; have q4' := hr8.cell 4 _ rfl; have f4' := hr8.free 4; have hlt8 := hr8.lt; have q0s := (hr8.set 4 .nilIface).cell 0 _ rfl; have q1s := (hr8.set 4 .nilIface).cell 1 _ rfl; have HS8 := hidF hs8; have HF8 := hidF hf8; have K8 := hidF k8; clear hs8 hf8 k8 hr8)))
    have hs8 := HS8.out
    have hf8 := HF8.out
    have k8 := K8.out
    have hml : ((c.data.drop i).take m).length = m := by rw [List.length_take, List.length_drop, ← HL.out]; omega
    have HML := hidF hml
    have HMB := hidF (more_bytes (bf := bf) (q := 0) (t := (c.data.drop i).take m) HB7.out.len (by rw [hml]; omega))
    have HB8 := hidF (show BufAt c (splice bf 0 ((c.data.drop i).take m)) 0 0 (i + m) .nilIface lb ls w8 from by
      rw [bc_splice] at hf8
      rw [← Hp.out] at hs8
      exact HB7.out.put (k8.mono (by simp [BR.own])) (HB7.out.rd.only k8 (by simp [HB7.out.ok.rs, HB7.out.ok.rf])) hf8 ⟨_, hs8⟩ HMB.out.1 (Nat.zero_le _) (by omega) (by rw [← HL.out]; omega))
    have HB9 := hidF (show BufAt c (splice bf 0 ((c.data.drop i).take m)) 0 0 (i + m) .nilIface lb ls (w8.setCell ⟨c.R, 4, none⟩ .nilIface) from HB8.out.reR (Only.set _ _ _ _) (HB8.out.rd.set 4 _) (Nat.le_refl _) (by omega))
    have HO9 := hidF (show Only c.own w (w8.setCell ⟨c.R, 4, none⟩ .nilIface) from (HO7.out.trans (k8.mono (M := c.own) (by simp [BR.own]))).trans (BufAt.onlySet 4 _))
    have HG9 := hidF (show Ob (w8.setCell ⟨c.R, 4, none⟩ .nilIface) G 5 (Lib.byteCells (nulls 512)) from (HG7.out.only k8 (fun hx => HGn.out (by simp only [List.mem_cons, List.not_mem_nil, or_false] at hx; rcases hx with h | h <;> (rw [h]; simp [BR.all])))).only (Only.set _ c.R 4 _) (fun hx => HGn.out (by rw [List.mem_singleton.1 hx]; simp [BR.all])))
    clear q0 q1 q0' q1' q0s q1s q4' f4' hlt8 HB8 K8 hcall hs8 hf8 k8 hml
    generalize w8.setCell ⟨c.R, 4, none⟩ .nilIface = w9 at HB9 HO9 HG9 ⊢
    have HQ9 := hidF HMB.out.2
    generalize splice bf 0 ((c.data.drop i).take m) = bf2 at HB9 HQ9
    have q3 := HB9.out.rd.cell 3 _ rfl
    have f3 := HB9.out.rd.free 3
    have hlt := HB9.out.rd.lt
    go_wp2_with fail
    have HB10 := hidF (show BufAt c bf2 0 m (i + m) .nilIface lb ls (w9.setCell ⟨c.R, 3, none⟩ (.int .i64 (m : Int))) from HB9.out.reR (Only.set _ _ _ _) (HB9.out.rd.set 3 _) (Nat.zero_le _) hm1.2.1)
    have HO10 := hidF (show Only (G :: c.own) w (w9.setCell ⟨c.R, 3, none⟩ (.int .i64 (m : Int))) from (HO9.out.trans (BufAt.onlySet 3 _)).mono (fun x hx => by simp [hx]))
    have HG10 := hidF (show Ob (w9.setCell ⟨c.R, 3, none⟩ (.int .i64 (m : Int))) G 5 (Lib.byteCells (nulls 512)) from HG9.out.only (Only.set _ c.R 3 _) (fun hx => HGn.out (by rw [List.mem_singleton.1 hx]; simp [BR.all])))
    have hr0 : 0 < m := hm1.1
    have hwb2 : m ≤ 4096 := hm1.2.1
    clear q3 f3 hlt HB9 HO9 HG9 z1 z4
    generalize w9.setCell ⟨c.R, 3, none⟩ (.int .i64 (m : Int)) = w10 at HB10 HO10 HG10 ⊢
    have q0 := HB10.out.rd.cell 0 _ rfl
    have q2 := HB10.out.rd.cell 2 _ rfl
    have q3 := HB10.out.rd.cell 3 _ rfl
    have hlt := HB10.out.rd.lt
    have y1 : (0 : Int) ≤ (m : Int) := by omega
    have y2 : (m : Int) ≤ 4096 := by omega
    have y3 : 0 < 4096 := by omega
    obtain ⟨n, hn⟩ : ∃ n, n = Nat.min (m - 0) 512 := ⟨_, rfl⟩
    have HN := hidF hn
    have hnb : 1 ≤ n ∧ n ≤ 512 ∧ n ≤ m - 0 := by
      rw [hn]
      refine ⟨?_, Nat.min_le_right _ _, Nat.min_le_left _ _⟩
      show 1 ≤ min _ _
      omega
    have HNB := hidF hnb
    have hbl : (bufQ bf2 0 m).length = m - 0 := bufQ_len HB10.out.len hwb2
    have hcs : (Lib.byteCells ((bufQ bf2 0 m).take n)).length = n := by rw [bc_len, List.length_take, hbl]; omega
    have Hc1 := hidF (show (Lib.byteCells ((bufQ bf2 0 m).take n)).length = Nat.min (m - 0) 512 from hcs.trans hn)
    have HB3 := hidF (HB10.out.drewN 1)
    have HG3 := hidF (HG10.out.drewN 1)
    have Hc2 := hidF (show ∀ sp : Option Addr, (0 < 4096 → sp = some ⟨c.F, 0, none⟩) → 0 < (Lib.byteCells ((bufQ bf2 0 m).take n)).length → ∃ ad, sp = some ad ∧ ∀ j v, (Lib.byteCells ((bufQ bf2 0 m).take n))[j]? = some v → w10.drew.cell? (ad.add j) = some v from (by
      intro sp hsp hp
      refine ⟨_, hsp y3, fun j v hj => ?_⟩
      have hjm : j < n := by have := (List.getElem?_eq_some_iff.1 hj).1; omega
      rw [show (⟨c.F, 0, none⟩ : Addr).add j = ⟨c.F, 0 + j, none⟩ from by unfold Addr.add; split <;> simp_all]
      refine HB3.out.bb.cell _ _ ?_
      rw [← hj]
      unfold Lib.byteCells bufQ
      rw [List.getElem?_map, List.getElem?_map, List.getElem?_take, if_pos hjm, List.getElem?_take, if_pos (by omega), List.getElem?_drop]))
    have Hc3 := hidF (show 0 + (Lib.byteCells ((bufQ bf2 0 m).take n)).length ≤ (Lib.byteCells (nulls 512)).length from by rw [hcs, bc_len, nulls_length]; omega)
    have Hc4 := hidF (show ∀ v ∈ Lib.byteCells ((bufQ bf2 0 m).take n), v.oneCell' = true from fun v hv => by unfold Lib.byteCells at hv; obtain ⟨c, _, rfl⟩ := List.mem_map.1 hv; rfl)
    have Hcm := hidF hcs
    obtain ⟨r2, hr2⟩ : ∃ r2, r2 = 0 + n := ⟨_, rfl⟩
    obtain ⟨j, hj⟩ : ∃ j, j = 0 + n - 1 := ⟨_, rfl⟩
    have hjl : j < bf2.length := by rw [HB10.out.len]; omega
    obtain ⟨xj, hxj⟩ : ∃ x, x = bf2[j] := ⟨_, rfl⟩
    have Hxj := hidF (show bf2[j]? = some xj by rw [hxj, List.getElem?_eq_getElem])
    have zz1 : IntKind.i64.wrap (n : Int) = (r2 : Int) := by rw [IntWalk.i64_in _ (by omega)]; omega
    have z2 : IntKind.i64.wrap ((r2 : Int) - 1) = (j : Int) := by rw [IntWalk.i64_in _ (by omega)]; omega
    have z3 : (j : Int) < 4096 := by have := HB10.out.len; omega
    have z4 : j < 4096 := by omega
    have hRF := HB10.out.ok.rf
    have hFR := hRF.symm
    have Hr2 := hidF hr2
    have Hj := hidF hj
    clear hcs hn hnb hbl hr2 hj hjl hxj
    go_wp2_with fail
    go_still_tail 14, (by kernel_rfl)
    change wpList _ _ _ _ _ w10.drew
    go_wp2_with (refine wpList_copy_ob rfl (.tmp 109) (.tmp 122) 22 22 rfl 5 (by kernel_rfl) (by kernel_rfl) G 0 512 512 _ (m - 0) _ rfl rfl (Lib.byteCells (nulls 512)) _ HG3.out (Lib.byteCells ((bufQ bf2 0 m).take n)) Hc1.out (Hc2.out _ (by intro _; first | rfl | (exact if_neg (by omega)))) Hc3.out Hc4.out ?_; intro w4 hob hgr; rw [Hcm.out]; have HOB := hidF hob.out; have HGR := hidF hgr.out; have HB4 := hidF (HB3.out.only (Only.of_grown hgr.out) (fun x hx h2 => by obtain rfl := List.mem_singleton.1 hx; exact HGn.out h2)); have q0' := HB4.out.rd.cell 0 _ rfl; have q2' := HB4.out.rd.cell 2 _ rfl; have q5' := HB4.out.rd.cell 5 _ rfl; have q6' := HB4.out.rd.cell 6 _ rfl; have f2' := HB4.out.rd.free 2; have f5' := HB4.out.rd.free 5; have f6' := HB4.out.rd.free 6; have hlt4 := HB4.out.rd.lt; have cF := buf_cell HB4.out Hxj.out; clear hob hgr)
    have HB5 := hidF (show BufAt c bf2 r2 m (i + m) .nilIface lb ls (w4.setCell ⟨c.R, 2, none⟩ (.int .i64 (r2 : Int))) from HB4.out.setR 2 _ rfl (by have := HNB.out; have := Hr2.out; omega) hwb2)
    have HO5 := hidF (show Only (G :: c.own) w (w4.setCell ⟨c.R, 2, none⟩ (.int .i64 (r2 : Int))) from HO10.out.trans ((Only.drewN _ w10 1).trans (((Only.of_grown HGR.out).mono (by simp)).trans ((BufAt.onlySet (c := c) 2 _).mono (fun x hx => by simp [hx])))))
    have HG5 := hidF (show Ob (w4.setCell ⟨c.R, 2, none⟩ (.int .i64 (r2 : Int))) G 5 (Lib.byteCells (splice (nulls 512) 0 ((bufQ bf2 0 m).take n))) from by
      have h1 := HOB.out
      rw [bc_splice] at h1
      exact h1.only (Only.set _ c.R 2 _) (fun hx => HGn.out (by rw [List.mem_singleton.1 hx]; simp [BR.all])))
    clear q0' q2' q5' q6' f2' f5' f6' hlt4 cF HB4 HOB HGR q0 q2 q3 hlt
    generalize w4.setCell ⟨c.R, 2, none⟩ (.int .i64 (r2 : Int)) = w5 at HB5 HO5 HG5 ⊢
    have q0 := HB5.out.rd.cell 0 _ rfl
    have q2 := HB5.out.rd.cell 2 _ rfl
    have cF := buf_cell HB5.out Hxj.out
    go_still_tail 13, (by kernel_rfl)
    change wpList _ _ _ _ _ w5.drew
    have HB6 := hidF (HB5.out.drewN 1)
    have HO6 := hidF (HO5.out.trans (Only.drewN _ w5 1))
    have HG6 := hidF (HG5.out.drewN 1)
    clear q0 q2 cF HB5 HO5 HG5
    change Hid (BufAt _ _ _ _ _ _ _ _ w5.drew) at HB6
    change Hid (Only _ _ w5.drew) at HO6
    change Hid (Ob w5.drew _ _ _) at HG6
    generalize w5.drew = w6 at HB6 HO6 HG6 ⊢
    have f5 := HB6.out.rd.free 5
    have f6 := HB6.out.rd.free 6
    have q5 := HB6.out.rd.cell 5 _ rfl
    have q6 := HB6.out.rd.cell 6 _ rfl
    have hlt := HB6.out.rd.lt
    go_wp2_with fail
    go_ret2
    have hr2 : r2 = 0 + n := Hr2.out
    have hBf : BufAt c bf2 (0 + n) m (i + m) .nilIface (wrap64 ((xj.toNat : Nat) : Int)) (-1) ((w6.setCell ⟨c.R, 5, none⟩ (.int .i64 (wrap64 ((xj.toNat : Nat) : Int)))).setCell ⟨c.R, 6, none⟩ (.int .i64 (-1))) := by
      rw [← hr2]
      exact (HB6.out.setR 5 _ rfl HB6.out.rw HB6.out.wb).setR 6 _ rfl HB6.out.rw HB6.out.wb
    have hq : bufQ bf2 0 m = (c.data.drop i).take m := by
      have h1 := HQ9.out
      rw [HML.out, Nat.zero_add] at h1
      rw [h1]
      simp [bufQ]
    have htk : (bufQ bf2 0 m).take n = (c.data.drop i).take n := by rw [hq, List.take_take, Nat.min_eq_left (by have := HNB.out; omega)]
    refine .inr ⟨n, by have := HNB.out; omega, by rw [List.length_drop, ← HL.out]; have := HNB.out; omega, HNB.out.2.1, rfl, ⟨bf2, 0 + n, m, i + m, _, _, hBf, ?_⟩, HO6.out.trans (((BufAt.onlySet (c := c) 5 _).trans (BufAt.onlySet (c := c) 6 _)).mono (fun x hx => by simp [hx])), ?_⟩
    · have h1 : bufQ bf2 (0 + n) m = ((c.data.drop i).take m).drop n := by
        rw [← hq]
        unfold bufQ
        rw [List.drop_zero, Nat.zero_add, Nat.sub_zero, List.drop_take]
      rw [h1, ← List.drop_drop, ← List.drop_append_of_le_length (by rw [HML.out]; have := HNB.out; omega), List.take_append_drop]
    · rw [← htk]
      exact (HG6.out.only (Only.set _ c.R 5 _) (fun hx => HGn.out (by rw [List.mem_singleton.1 hx]; simp [BR.all]))).only (Only.set _ c.R 6 _) (fun hx => HGn.out (by rw [List.mem_singleton.1 hx]; simp [BR.all]))
end Go.Proofs.YtddnjdapdcopgaaDoor
