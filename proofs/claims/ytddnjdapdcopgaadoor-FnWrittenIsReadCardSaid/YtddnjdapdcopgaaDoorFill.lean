/- bufio's fill: the walk. -/
import Derived.Test.YtddnjdapdcopgaaDoorBuf
namespace Go.Proofs.YtddnjdapdcopgaaDoor
open Go.RowKit

/-- What fill leaves. -/
def FillOut (c : BR) (bf : List UInt8) (r wi i : Nat) (lb ls : Int) (w : World) (e : Ending) (w' : World) : Prop :=
  e = .returned (.tuple #[]) ∧ Only c.own w w' ∧ ∃ bf' i' er', BufAt c bf' 0 ((wi - r) + (i' - i)) i' er' lb ls w' ∧ i ≤ i' ∧ bufQ bf' 0 ((wi - r) + (i' - i)) = bufQ bf r wi ++ (c.data.drop i).take (i' - i) ∧
    ((i' = i ∧ i = c.data.length ∧ er' = eofV c.eof) ∨ (i < i' ∧ er' = .nilIface))

theorem bc_splice (bf q : List UInt8) (o : Nat) : splice (Lib.byteCells bf) o (Lib.byteCells q) = Lib.byteCells (splice bf o q) := by
  unfold splice Lib.byteCells
  simp [List.map_take, List.map_drop]

/-- q bytes are left between r and wi. -/
def Left (q wi r : Nat) : Prop := q = wi - r

/-- What is not yet read lies at the buffer's head. -/
theorem slide_bytes {bf : List UInt8} {r wi : Nat} (hl : bf.length = 4096) (h2 : wi ≤ 4096) : (splice bf 0 (bufQ bf r wi)).length = 4096 ∧ bufQ (splice bf 0 (bufQ bf r wi)) 0 (wi - r) = bufQ bf r wi := by
  have hq := bufQ_len (r := r) hl h2
  refine ⟨by rw [length_splice _ _ _ (by omega)]; exact hl, ?_⟩
  unfold bufQ at hq ⊢
  rw [List.drop_zero, Nat.sub_zero]
  unfold splice
  rw [List.take_zero, List.nil_append, List.take_append_of_le_length (by omega)]
  exact List.take_of_length_le (by omega)

/-- Bytes put behind them. -/
theorem more_bytes {bf : List UInt8} {q : Nat} {t : List UInt8} (hl : bf.length = 4096) (h : q + t.length ≤ 4096) : (splice bf q t).length = 4096 ∧ bufQ (splice bf q t) 0 (q + t.length) = bufQ bf 0 q ++ t := by
  refine ⟨by rw [length_splice _ _ _ (by omega)]; exact hl, ?_⟩
  unfold bufQ splice
  rw [List.drop_zero, List.drop_zero, Nat.sub_zero, Nat.sub_zero, ← List.append_assoc, List.take_append_of_le_length (by rw [List.length_append, List.length_take]; omega), List.take_of_length_le (by rw [List.length_append, List.length_take]; omega)]

set_option maxHeartbeats 8000000 in
set_option maxRecDepth 100000 in
theorem fill_zero (c : BR) (bf : List UInt8) (wi : Nat) (i : Nat) (lb ls : Int) (w : World) (h : BufAt c bf 0 wi i .nilIface lb ls w) (hw : wi - 0 < 4096) :
    Calls Tryd.prog 32 #[.pointer (some ⟨c.R, 0, none⟩)] w (FillOut c bf 0 wi i lb ls w) := by
  have q0 := h.rd.cell 0 _ rfl
  have q2 := h.rd.cell 2 _ rfl
  have q3 := h.rd.cell 3 _ rfl
  have hlt := h.rd.lt
  have H := hidF h
  have hrw := h.rw
  have hwb := h.wb
  have Hq : Hid (Left wi wi 0) := hidF (show wi = wi - 0 from rfl)
  clear h
  go_enter Tryd.func32, Tryd.ntmps32
  go_wp2_with fail
  clear q0 q2 q3
  obtain ⟨w6, HB6, HO6, hw6⟩ : ∃ w6, Hid (BufAt c bf 0 wi i .nilIface lb ls w6) ∧ Hid (Only c.own w w6) ∧ w6 = w := ⟨w, H, hidF (Only.refl _ _), rfl⟩
  rw [← hw6]
  clear hw6
  obtain ⟨bf2, HB6, HQ6⟩ : ∃ bf2, Hid (BufAt c bf2 0 wi i .nilIface lb ls w6) ∧ Hid (bufQ bf2 0 wi = bufQ bf 0 wi) := ⟨bf, HB6, hidF rfl⟩
  have q0 := HB6.out.rd.cell 0 _ rfl
  have q1 := HB6.out.rd.cell 1 _ rfl
  have q3 := HB6.out.rd.cell 3 _ rfl
  have y1 : ¬ (4096 : Int) ≤ (wi : Int) := by omega
  have y2 : (wi : Int) ≤ (4096 : Int) := by omega
  have y3 : ¬ 4096 = wi := by omega
  have hme := fun w => method_rd ⟨c.S, 0, none⟩ w
  go_quiet (fail)
  have HB6b := hidF (HB6.out.drewN nq)
  have HO6b := hidF (HO6.out.trans (Only.drewN c.own w6 nq))
  clear HB6 HO6 q0 q1 q3
  generalize w6.drewN nq = w6b at HB6b HO6b ⊢
  have q0 := HB6b.out.rd.cell 0 _ rfl
  have q1 := HB6b.out.rd.cell 1 _ rfl
  have q3 := HB6b.out.rd.cell 3 _ rfl
  go_wp2_with fail
  refine wp_loop_rounds 1 ?_
  rw [rounds_succ]
  go_wp2_with fail
  have HB7 := hidF (show BufAt c bf2 0 wi i .nilIface lb ls w6b.drew from HB6b.out.drewN 1)
  have HO7 := hidF (show Only c.own w w6b.drew from HO6b.out.trans (Only.drewN _ _ 1))
  obtain ⟨pv, hs⟩ := HB7.out.sr
  have HS7 := hidF hs
  clear hs
  have hil := HB7.out.il
  obtain ⟨len, hlen⟩ : ∃ len, len = c.data.length := ⟨_, rfl⟩
  rw [← hlen] at hil HS7
  have HL := hidF hlen
  clear hlen
  by_cases hend : i = len
  · have hcall := hidF (bytesRead_end c.S len c.scap i c.p pv c.eof (.slice (some ⟨c.F, wi, none⟩) (4096 - wi) (4096 - wi)) w6b.drew HS7.out (by omega) (by have := HB7.out.ok.small; have := HL.out; omega) HB7.out.eo)
    unfold eofV at hcall
    go_region_held3 (fun w' => w'.cell? ⟨c.R, 0, none⟩ = some (.slice (some ⟨c.F, 0, none⟩) 4096 4096) ∧ w'.cell? ⟨c.R, 1, none⟩ = some (.iface 46 (.pointer (some ⟨c.S, 0, none⟩))) ∧ w'.cell? ⟨c.R, 3, none⟩ = some (.int .i64 (wi : Int))) (first | exact ⟨q0, q1, q3⟩ | exact ⟨q0', q1', q3'⟩) ((first | (go_at_call 69; refine hcall.out.mono ?_; rintro e w8 ⟨rfl, k8⟩; have HB8 := hidF (HB7.out.only k8 (fun _ hx => by cases hx)); have K8 := hidF k8; have q0' := HB8.out.rd.cell 0 _ rfl; have q1' := HB8.out.rd.cell 1 _ rfl; have q3' := HB8.out.rd.cell 3 _ rfl; clear k8)))
    clear q0 q1 q3
    have HO8 := hidF (HO7.out.trans (K8.out.mono (fun _ hx => by cases hx)))
    have q3 := HB8.out.rd.cell 3 _ rfl
    have f3 := HB8.out.rd.free 3
    have q4 := HB8.out.rd.cell 4 _ rfl
    have f4 := HB8.out.rd.free 4
    have hlt8 := HB8.out.rd.lt
    have z1 : IntKind.i64.wrap (wi : Int) = (wi : Int) := IntWalk.i64_in _ (by omega)
    clear hcall q0' q1' q3'
    go_wp2_with fail
    go_end0
    refine ⟨rfl, HO8.out.trans ((BufAt.onlySet 3 _).trans (BufAt.onlySet 4 _)), bf2, i, eofV c.eof, ?_, Nat.le_refl _, ?_, .inl ⟨rfl, hend.trans HL.out, rfl⟩⟩
    · rw [show (wi - 0) + (i - i) = wi by have e : wi = (wi - 0) := Hq.out; omega]
      exact HB8.out.reR ((Only.set _ _ _ _).trans (Only.set _ _ _ _)) ((HB8.out.rd.set 3 _).set 4 _) (Nat.zero_le _) (by omega)
    · rw [show (wi - 0) + (i - i) = wi by have e : wi = (wi - 0) := Hq.out; omega, Nat.sub_self, List.take_zero, List.append_nil]
      exact HQ6.out
  · have hdne : c.data ≠ [] := fun e => by have := HL.out; rw [e] at this; simp at this; omega
    have hp := HB7.out.ok.hp hdne
    obtain ⟨m, hm⟩ : ∃ m, m = Nat.min (c.data.length - i) (4096 - wi) := ⟨_, rfl⟩
    have hm1 : 1 ≤ m ∧ m ≤ 4096 - wi ∧ m ≤ len - i := by rw [hm, ← HL.out]; exact ⟨Nat.le_min.2 ⟨by omega, by omega⟩, Nat.min_le_right _ _, Nat.min_le_left _ _⟩
    have hcall := hidF (bytesRead_more c.S c.D c.F wi (4096 - wi) (4096 - wi) c.scap i m c.data pv 5 (Lib.byteCells bf2) w6b.drew (by have := HS7.out; rw [hp, HL.out] at this; exact this) (by rw [← HL.out]; omega) HB7.out.ok.cap HB7.out.ok.small HB7.out.dat HB7.out.bb HB7.out.ok.fs HB7.out.ok.df.symm HB7.out.ok.ds.symm (Nat.le_refl _) (by omega) (by rw [bc_len, HB7.out.len]; omega) hm)
    have Hp := hidF hp
    have z0 : ¬ (m : Int) < 0 := by omega
    have z1 : (0 : Int) < (m : Int) := by omega
    have z2 : (wi : Int) + (m : Int) ≤ 4096 := by omega
    have z3 : 0 ≤ (wi : Int) + (m : Int) := by omega
    have z4 : IntKind.i64.wrap ((wi : Int) + (m : Int)) = (wi : Int) + (m : Int) := IntWalk.i64_in _ (by omega)
    clear hp hm hdne
    go_region_held3 (fun w' => w'.cell? ⟨c.R, 0, none⟩ = some (.slice (some ⟨c.F, 0, none⟩) 4096 4096) ∧ w'.cell? ⟨c.R, 1, none⟩ = some (.iface 46 (.pointer (some ⟨c.S, 0, none⟩))) ∧ w'.cell? ⟨c.R, 3, none⟩ = some (.int .i64 (wi : Int))) (first | exact ⟨q0, q1, q3⟩ | exact ⟨q0', q1', q3'⟩) ((first | (go_at_call 69; refine hcall.out.mono ?_; rintro e w8 ⟨rfl, hs8, hf8, k8⟩; have hr8 := HB7.out.rd.only k8 (by simp [HB7.out.ok.rs, HB7.out.ok.rf]); have q0' := hr8.cell 0 _ rfl; have q1' := hr8.cell 1 _ rfl; have q3' := hr8.cell 3 _ rfl; have HR8 := hidF hr8; have HS8 := hidF hs8; have HF8 := hidF hf8; have K8 := hidF k8; clear hs8 hf8 k8 hr8)))
    clear q0 q1 q3 q0' q1' q3'
    have hs8 := HS8.out
    have hf8 := HF8.out
    have k8 := K8.out
    have hml : ((c.data.drop i).take m).length = m := by rw [List.length_take, List.length_drop, ← HL.out]; omega
    have HML := hidF hml
    have HMB := hidF (more_bytes (bf := bf2) (q := wi) (t := (c.data.drop i).take m) HB7.out.len (by rw [hml]; omega))
    have HB8 := hidF (show BufAt c (splice bf2 wi ((c.data.drop i).take m)) 0 wi (i + m) .nilIface lb ls w8 from by
      rw [bc_splice] at hf8
      rw [← Hp.out] at hs8
      exact HB7.out.put (k8.mono (by simp [BR.own])) (HB7.out.rd.only k8 (by simp [HB7.out.ok.rs, HB7.out.ok.rf])) hf8 ⟨_, hs8⟩ HMB.out.1 (Nat.zero_le _) (by omega) (by rw [← HL.out]; omega))
    have HO8 := hidF (HO7.out.trans (k8.mono (M := c.own) (by simp [BR.own])))
    have q3 := HB8.out.rd.cell 3 _ rfl
    have f3 := HB8.out.rd.free 3
    have hlt8 := HB8.out.rd.lt
    clear k8 hcall hs8 hf8 hml
    go_wp2_with fail
    go_end0
    refine ⟨rfl, HO8.out.trans (BufAt.onlySet 3 _), splice bf2 wi ((c.data.drop i).take m), i + m, .nilIface, ?_, by omega, ?_, .inr ⟨by omega, rfl⟩⟩
    · rw [show (wi - 0) + (i + m - i) = wi + m by have e : wi = (wi - 0) := Hq.out; omega]
      exact HB8.out.reR (Only.set _ _ _ _) (HB8.out.rd.set 3 _) (Nat.zero_le _) (by omega)
    · rw [show (wi - 0) + (i + m - i) = wi + m by have e : wi = (wi - 0) := Hq.out; omega, Nat.add_sub_cancel_left, ← HQ6.out]
      have := HMB.out.2
      rw [HML.out] at this
      exact this

set_option maxHeartbeats 8000000 in
set_option maxRecDepth 100000 in
theorem fill_some (c : BR) (bf : List UInt8) (r wi : Nat) (i : Nat) (lb ls : Int) (w : World) (h : BufAt c bf r wi i .nilIface lb ls w) (hw : wi - r < 4096) (hr : 0 < r ∧ r < 4096) :
    Calls Tryd.prog 32 #[.pointer (some ⟨c.R, 0, none⟩)] w (FillOut c bf r wi i lb ls w) := by
  have q0 := h.rd.cell 0 _ rfl
  have q2 := h.rd.cell 2 _ rfl
  have q3 := h.rd.cell 3 _ rfl
  have hlt := h.rd.lt
  have H := hidF h
  have hrw := h.rw
  have hwb := h.wb
  obtain ⟨q, hqe⟩ : ∃ q, q = wi - r := ⟨_, rfl⟩
  have x1 : (wi : Int) - (r : Int) = (q : Int) := by omega
  have x2 : IntKind.i64.wrap (q : Int) = (q : Int) := IntWalk.i64_in _ (by omega)
  have hwq : q < 4096 := by omega
  have Hq : Hid (Left q wi r) := hidF hqe
  clear h hqe hw
  have b0 : (0 : Int) < (r : Int) := by omega
  have b1 : (r : Int) ≤ (wi : Int) := by omega
  have b2 : (wi : Int) ≤ 4096 := by omega
  have b3 : ¬ 4096 = r := by omega
  go_enter Tryd.func32, Tryd.ntmps32
  go_wp2_with fail
  go_still_tail 17, (by kernel_rfl)
  change wpList _ _ _ _ _ w.drew
  have hq := bufQ_len (r := r) H.out.len hwb
  have hcs : (Lib.byteCells (bufQ bf r wi)).length = wi - r := by rw [bc_len]; exact hq
  have Hc1 := hidF (show (Lib.byteCells (bufQ bf r wi)).length = Nat.min (wi - r) 4096 from hcs.trans (Nat.min_eq_left (by omega)).symm)
  have Hc2 := hidF (show ∀ sp : Option Addr, (r < 4096 → sp = some ⟨c.F, r, none⟩) → 0 < (Lib.byteCells (bufQ bf r wi)).length → ∃ ad, sp = some ad ∧ ∀ j v, (Lib.byteCells (bufQ bf r wi))[j]? = some v → w.drew.cell? (ad.add j) = some v from (by
    intro sp hsp hp
    refine ⟨_, hsp (by omega), fun j v hj => ?_⟩
    have hjm : j < wi - r := by have := (List.getElem?_eq_some_iff.1 hj).1; omega
    rw [show (⟨c.F, r, none⟩ : Addr).add j = ⟨c.F, r + j, none⟩ from by unfold Addr.add; split <;> simp_all]
    refine (H.out.bb.drewN 1).cell _ _ ?_
    rw [← hj]
    unfold Lib.byteCells bufQ
    rw [List.getElem?_map, List.getElem?_map, List.getElem?_take, if_pos hjm, List.getElem?_drop]))
  have Hc3 := hidF (show 0 + (Lib.byteCells (bufQ bf r wi)).length ≤ (Lib.byteCells bf).length from by rw [hcs, bc_len, H.out.len]; omega)
  have Hc4 := hidF (show ∀ v ∈ Lib.byteCells (bufQ bf r wi), v.oneCell' = true from fun v hv => by unfold Lib.byteCells at hv; obtain ⟨c, _, rfl⟩ := List.mem_map.1 hv; rfl)
  have Hcm := hidF hcs
  clear hcs hq
  go_wp2_with (refine wpList_copy_ob rfl (.tmp 13) (.tmp 26) 22 22 rfl 5 (by kernel_rfl) (by kernel_rfl) c.F 0 4096 4096 _ (wi - r) _ rfl rfl (Lib.byteCells bf) _ (H.out.bb.drewN 1) (Lib.byteCells (bufQ bf r wi)) Hc1.out (Hc2.out _ (by intro _; rfl)) Hc3.out Hc4.out ?_; intro w4 hob hgr; rw [Hcm.out]; have HOB := hidF hob.out; have HGR := hidF hgr.out; have HR4 := hidF ((H.out.rd.drewN 1).same (HGR.out.block c.R hlt (fun e => H.out.ok.rf (Option.some.inj e)))); have q2' := HR4.out.cell 2 _ rfl; have q3' := HR4.out.cell 3 _ rfl; have f3' := HR4.out.free 3; have hlt4 := HR4.out.lt; clear hob hgr)
  have HB4 := hidF (show BufAt c (splice bf 0 (bufQ bf r wi)) r wi i .nilIface lb ls w4 from by
    have k : Only [c.F] w w4 := (Only.drewN _ w 1).trans (Only.of_grown HGR.out)
    obtain ⟨pv, hs⟩ := H.out.sr
    refine H.out.put (k.mono (by simp [BR.own])) HR4.out ?_ ⟨pv, hs.only k (by simp [H.out.ok.fs.symm])⟩ (slide_bytes H.out.len hwb).1 hrw hwb H.out.il
    have := HOB.out
    rw [bc_splice] at this
    exact this)
  have HO4 := hidF (show Only c.own w w4 from (Only.drewN _ w 1).trans ((Only.of_grown HGR.out).mono (by simp [BR.own])))
  clear q0 q2 q3
  go_still_tail 11, (by kernel_rfl)
  change wpList _ _ _ _ _ w4.drew
  have HB5 := hidF (show BufAt c (splice bf 0 (bufQ bf r wi)) r wi i .nilIface lb ls w4.drew from HB4.out.drewN 1)
  have HO5 := hidF (show Only c.own w w4.drew from HO4.out.trans (Only.drewN _ w4 1))
  generalize w4.drew = w5 at HB5 HO5 ⊢
  have q2 := HB5.out.rd.cell 2 _ rfl
  have f2 := HB5.out.rd.free 2
  have q3 := HB5.out.rd.cell 3 _ rfl
  have f3 := HB5.out.rd.free 3
  have hlt5 := HB5.out.rd.lt
  clear q2' q3' f3' hlt4
  go_wp2_with fail
  have HB6 := hidF (show BufAt c (splice bf 0 (bufQ bf r wi)) 0 q i .nilIface lb ls ((w5.setCell ⟨c.R, 3, none⟩ (.int .i64 (q : Int))).setCell ⟨c.R, 2, none⟩ (.int .i64 0)) from
    HB5.out.reR ((Only.set _ _ _ _).trans (Only.set _ _ _ _)) ((HB5.out.rd.set 3 _).set 2 _) (Nat.zero_le _) (by omega))
  have HO6 := hidF (HO5.out.trans ((BufAt.onlySet 3 (.int .i64 (q : Int))).trans (BufAt.onlySet (c := c) 2 (.int .i64 0))))
  have HQ6 := hidF (show bufQ (splice bf 0 (bufQ bf r wi)) 0 q = bufQ bf r wi from by rw [show q = wi - r from Hq.out]; exact (slide_bytes H.out.len hwb).2)
  clear q2 f2 q3 f3 hlt5
  generalize (w5.setCell ⟨c.R, 3, none⟩ (.int .i64 (q : Int))).setCell ⟨c.R, 2, none⟩ (.int .i64 0) = w6 at HB6 HO6 ⊢
  generalize splice bf 0 (bufQ bf r wi) = bf2 at HB6 HQ6
  have q0 := HB6.out.rd.cell 0 _ rfl
  have q1 := HB6.out.rd.cell 1 _ rfl
  have q3 := HB6.out.rd.cell 3 _ rfl
  have y1 : ¬ (4096 : Int) ≤ (q : Int) := by omega
  have y2 : (q : Int) ≤ (4096 : Int) := by omega
  have y3 : ¬ 4096 = q := by omega
  have hme := fun w => method_rd ⟨c.S, 0, none⟩ w
  go_quiet (fail)
  have HB6b := hidF (HB6.out.drewN nq)
  have HO6b := hidF (HO6.out.trans (Only.drewN c.own w6 nq))
  clear HB6 HO6 q0 q1 q3
  generalize w6.drewN nq = w6b at HB6b HO6b ⊢
  have q0 := HB6b.out.rd.cell 0 _ rfl
  have q1 := HB6b.out.rd.cell 1 _ rfl
  have q3 := HB6b.out.rd.cell 3 _ rfl
  go_wp2_with fail
  refine wp_loop_rounds 1 ?_
  rw [rounds_succ]
  go_wp2_with fail
  have HB7 := hidF (show BufAt c bf2 0 q i .nilIface lb ls w6b.drew from HB6b.out.drewN 1)
  have HO7 := hidF (show Only c.own w w6b.drew from HO6b.out.trans (Only.drewN _ _ 1))
  obtain ⟨pv, hs⟩ := HB7.out.sr
  have HS7 := hidF hs
  clear hs
  have hil := HB7.out.il
  obtain ⟨len, hlen⟩ : ∃ len, len = c.data.length := ⟨_, rfl⟩
  rw [← hlen] at hil HS7
  have HL := hidF hlen
  clear hlen
  by_cases hend : i = len
  · have hcall := hidF (bytesRead_end c.S len c.scap i c.p pv c.eof (.slice (some ⟨c.F, q, none⟩) (4096 - q) (4096 - q)) w6b.drew HS7.out (by omega) (by have := HB7.out.ok.small; have := HL.out; omega) HB7.out.eo)
    unfold eofV at hcall
    go_region_held3 (fun w' => w'.cell? ⟨c.R, 0, none⟩ = some (.slice (some ⟨c.F, 0, none⟩) 4096 4096) ∧ w'.cell? ⟨c.R, 1, none⟩ = some (.iface 46 (.pointer (some ⟨c.S, 0, none⟩))) ∧ w'.cell? ⟨c.R, 3, none⟩ = some (.int .i64 (q : Int))) (first | exact ⟨q0, q1, q3⟩ | exact ⟨q0', q1', q3'⟩) ((first | (go_at_call 69; refine hcall.out.mono ?_; rintro e w8 ⟨rfl, k8⟩; have HB8 := hidF (HB7.out.only k8 (fun _ hx => by cases hx)); have K8 := hidF k8; have q0' := HB8.out.rd.cell 0 _ rfl; have q1' := HB8.out.rd.cell 1 _ rfl; have q3' := HB8.out.rd.cell 3 _ rfl; clear k8)))
    clear q0 q1 q3
    have HO8 := hidF (HO7.out.trans (K8.out.mono (fun _ hx => by cases hx)))
    have q3 := HB8.out.rd.cell 3 _ rfl
    have f3 := HB8.out.rd.free 3
    have q4 := HB8.out.rd.cell 4 _ rfl
    have f4 := HB8.out.rd.free 4
    have hlt8 := HB8.out.rd.lt
    have z1 : IntKind.i64.wrap (q : Int) = (q : Int) := IntWalk.i64_in _ (by omega)
    clear hcall q0' q1' q3'
    go_wp2_with fail
    go_end0
    refine ⟨rfl, HO8.out.trans ((BufAt.onlySet 3 _).trans (BufAt.onlySet 4 _)), bf2, i, eofV c.eof, ?_, Nat.le_refl _, ?_, .inl ⟨rfl, hend.trans HL.out, rfl⟩⟩
    · rw [show (wi - r) + (i - i) = q by have e : q = (wi - r) := Hq.out; omega]
      exact HB8.out.reR ((Only.set _ _ _ _).trans (Only.set _ _ _ _)) ((HB8.out.rd.set 3 _).set 4 _) (Nat.zero_le _) (by omega)
    · rw [show (wi - r) + (i - i) = q by have e : q = (wi - r) := Hq.out; omega, Nat.sub_self, List.take_zero, List.append_nil]
      exact HQ6.out
  · have hdne : c.data ≠ [] := fun e => by have := HL.out; rw [e] at this; simp at this; omega
    have hp := HB7.out.ok.hp hdne
    obtain ⟨m, hm⟩ : ∃ m, m = Nat.min (c.data.length - i) (4096 - q) := ⟨_, rfl⟩
    have hm1 : 1 ≤ m ∧ m ≤ 4096 - q ∧ m ≤ len - i := by rw [hm, ← HL.out]; exact ⟨Nat.le_min.2 ⟨by omega, by omega⟩, Nat.min_le_right _ _, Nat.min_le_left _ _⟩
    have hcall := hidF (bytesRead_more c.S c.D c.F q (4096 - q) (4096 - q) c.scap i m c.data pv 5 (Lib.byteCells bf2) w6b.drew (by have := HS7.out; rw [hp, HL.out] at this; exact this) (by rw [← HL.out]; omega) HB7.out.ok.cap HB7.out.ok.small HB7.out.dat HB7.out.bb HB7.out.ok.fs HB7.out.ok.df.symm HB7.out.ok.ds.symm (Nat.le_refl _) (by omega) (by rw [bc_len, HB7.out.len]; omega) hm)
    have Hp := hidF hp
    have z0 : ¬ (m : Int) < 0 := by omega
    have z1 : (0 : Int) < (m : Int) := by omega
    have z2 : (q : Int) + (m : Int) ≤ 4096 := by omega
    have z3 : 0 ≤ (q : Int) + (m : Int) := by omega
    have z4 : IntKind.i64.wrap ((q : Int) + (m : Int)) = (q : Int) + (m : Int) := IntWalk.i64_in _ (by omega)
    clear hp hm hdne
    go_region_held3 (fun w' => w'.cell? ⟨c.R, 0, none⟩ = some (.slice (some ⟨c.F, 0, none⟩) 4096 4096) ∧ w'.cell? ⟨c.R, 1, none⟩ = some (.iface 46 (.pointer (some ⟨c.S, 0, none⟩))) ∧ w'.cell? ⟨c.R, 3, none⟩ = some (.int .i64 (q : Int))) (first | exact ⟨q0, q1, q3⟩ | exact ⟨q0', q1', q3'⟩) ((first | (go_at_call 69; refine hcall.out.mono ?_; rintro e w8 ⟨rfl, hs8, hf8, k8⟩; have hr8 := HB7.out.rd.only k8 (by simp [HB7.out.ok.rs, HB7.out.ok.rf]); have q0' := hr8.cell 0 _ rfl; have q1' := hr8.cell 1 _ rfl; have q3' := hr8.cell 3 _ rfl; have HR8 := hidF hr8; have HS8 := hidF hs8; have HF8 := hidF hf8; have K8 := hidF k8; clear hs8 hf8 k8 hr8)))
    clear q0 q1 q3 q0' q1' q3'
    have hs8 := HS8.out
    have hf8 := HF8.out
    have k8 := K8.out
    have hml : ((c.data.drop i).take m).length = m := by rw [List.length_take, List.length_drop, ← HL.out]; omega
    have HML := hidF hml
    have HMB := hidF (more_bytes (bf := bf2) (q := q) (t := (c.data.drop i).take m) HB7.out.len (by rw [hml]; omega))
    have HB8 := hidF (show BufAt c (splice bf2 q ((c.data.drop i).take m)) 0 q (i + m) .nilIface lb ls w8 from by
      rw [bc_splice] at hf8
      rw [← Hp.out] at hs8
      exact HB7.out.put (k8.mono (by simp [BR.own])) (HB7.out.rd.only k8 (by simp [HB7.out.ok.rs, HB7.out.ok.rf])) hf8 ⟨_, hs8⟩ HMB.out.1 (Nat.zero_le _) (by omega) (by rw [← HL.out]; omega))
    have HO8 := hidF (HO7.out.trans (k8.mono (M := c.own) (by simp [BR.own])))
    have q3 := HB8.out.rd.cell 3 _ rfl
    have f3 := HB8.out.rd.free 3
    have hlt8 := HB8.out.rd.lt
    clear k8 hcall hs8 hf8 hml
    go_wp2_with fail
    go_end0
    refine ⟨rfl, HO8.out.trans (BufAt.onlySet 3 _), splice bf2 q ((c.data.drop i).take m), i + m, .nilIface, ?_, by omega, ?_, .inr ⟨by omega, rfl⟩⟩
    · rw [show (wi - r) + (i + m - i) = q + m by have e : q = (wi - r) := Hq.out; omega]
      exact HB8.out.reR (Only.set _ _ _ _) (HB8.out.rd.set 3 _) (Nat.zero_le _) (by omega)
    · rw [show (wi - r) + (i + m - i) = q + m by have e : q = (wi - r) := Hq.out; omega, Nat.add_sub_cancel_left, ← HQ6.out]
      have := HMB.out.2
      rw [HML.out] at this
      exact this

set_option maxHeartbeats 8000000 in
set_option maxRecDepth 100000 in
theorem fill_full (c : BR) (bf : List UInt8)  (i : Nat) (lb ls : Int) (w : World) (h : BufAt c bf 4096 4096 i .nilIface lb ls w) (hw : 4096 - 4096 < 4096) :
    Calls Tryd.prog 32 #[.pointer (some ⟨c.R, 0, none⟩)] w (FillOut c bf 4096 4096 i lb ls w) := by
  have q0 := h.rd.cell 0 _ rfl
  have q2 := h.rd.cell 2 _ rfl
  have q3 := h.rd.cell 3 _ rfl
  have hlt := h.rd.lt
  have H := hidF h
  have hrw := h.rw
  have hwb := h.wb
  have Hq : Hid (Left 0 4096 4096) := hidF (show 0 = 4096 - 4096 from rfl)
  clear h hw
  go_enter Tryd.func32, Tryd.ntmps32
  go_wp2_with fail
  go_still_tail 17, (by kernel_rfl)
  change wpList _ _ _ _ _ w.drew
  have hq := bufQ_len (r := 4096) H.out.len hwb
  have hcs : (Lib.byteCells (bufQ bf 4096 4096)).length = 4096 - 4096 := by rw [bc_len]; exact hq
  have Hc1 := hidF (show (Lib.byteCells (bufQ bf 4096 4096)).length = Nat.min (4096 - 4096) 4096 from hcs.trans (Nat.min_eq_left (by omega)).symm)
  have Hc2 := hidF (show ∀ sp : Option Addr, (4096 < 4096 → sp = some ⟨c.F, 4096, none⟩) → 0 < (Lib.byteCells (bufQ bf 4096 4096)).length → ∃ ad, sp = some ad ∧ ∀ j v, (Lib.byteCells (bufQ bf 4096 4096))[j]? = some v → w.drew.cell? (ad.add j) = some v from (by
    intro sp hsp hp
    refine ⟨_, hsp (by omega), fun j v hj => ?_⟩
    have hjm : j < 4096 - 4096 := by have := (List.getElem?_eq_some_iff.1 hj).1; omega
    rw [show (⟨c.F, 4096, none⟩ : Addr).add j = ⟨c.F, 4096 + j, none⟩ from by unfold Addr.add; split <;> simp_all]
    refine (H.out.bb.drewN 1).cell _ _ ?_
    rw [← hj]
    unfold Lib.byteCells bufQ
    rw [List.getElem?_map, List.getElem?_map, List.getElem?_take, if_pos hjm, List.getElem?_drop]))
  have Hc3 := hidF (show 0 + (Lib.byteCells (bufQ bf 4096 4096)).length ≤ (Lib.byteCells bf).length from by rw [hcs, bc_len, H.out.len]; omega)
  have Hc4 := hidF (show ∀ v ∈ Lib.byteCells (bufQ bf 4096 4096), v.oneCell' = true from fun v hv => by unfold Lib.byteCells at hv; obtain ⟨c, _, rfl⟩ := List.mem_map.1 hv; rfl)
  have Hcm := hidF hcs
  clear hcs hq
  go_wp2_with (refine wpList_copy_ob rfl (.tmp 13) (.tmp 26) 22 22 rfl 5 (by kernel_rfl) (by kernel_rfl) c.F 0 4096 4096 _ (4096 - 4096) _ rfl rfl (Lib.byteCells bf) _ (H.out.bb.drewN 1) (Lib.byteCells (bufQ bf 4096 4096)) Hc1.out (Hc2.out _ (by intro h; omega)) Hc3.out Hc4.out ?_; intro w4 hob hgr; rw [Hcm.out]; have HOB := hidF hob.out; have HGR := hidF hgr.out; have HR4 := hidF ((H.out.rd.drewN 1).same (HGR.out.block c.R hlt (fun e => H.out.ok.rf (Option.some.inj e)))); have q2' := HR4.out.cell 2 _ rfl; have q3' := HR4.out.cell 3 _ rfl; have f3' := HR4.out.free 3; have hlt4 := HR4.out.lt; clear hob hgr)
  have HB4 := hidF (show BufAt c (splice bf 0 (bufQ bf 4096 4096)) 4096 4096 i .nilIface lb ls w4 from by
    have k : Only [c.F] w w4 := (Only.drewN _ w 1).trans (Only.of_grown HGR.out)
    obtain ⟨pv, hs⟩ := H.out.sr
    refine H.out.put (k.mono (by simp [BR.own])) HR4.out ?_ ⟨pv, hs.only k (by simp [H.out.ok.fs.symm])⟩ (slide_bytes H.out.len hwb).1 hrw hwb H.out.il
    have := HOB.out
    rw [bc_splice] at this
    exact this)
  have HO4 := hidF (show Only c.own w w4 from (Only.drewN _ w 1).trans ((Only.of_grown HGR.out).mono (by simp [BR.own])))
  clear q0 q2 q3
  go_still_tail 11, (by kernel_rfl)
  change wpList _ _ _ _ _ w4.drew
  have HB5 := hidF (show BufAt c (splice bf 0 (bufQ bf 4096 4096)) 4096 4096 i .nilIface lb ls w4.drew from HB4.out.drewN 1)
  have HO5 := hidF (show Only c.own w w4.drew from HO4.out.trans (Only.drewN _ w4 1))
  generalize w4.drew = w5 at HB5 HO5 ⊢
  have q2 := HB5.out.rd.cell 2 _ rfl
  have f2 := HB5.out.rd.free 2
  have q3 := HB5.out.rd.cell 3 _ rfl
  have f3 := HB5.out.rd.free 3
  have hlt5 := HB5.out.rd.lt
  clear q2' q3' f3' hlt4
  go_wp2_with fail
  have HB6 := hidF (show BufAt c (splice bf 0 (bufQ bf 4096 4096)) 0 0 i .nilIface lb ls ((w5.setCell ⟨c.R, 3, none⟩ (.int .i64 0)).setCell ⟨c.R, 2, none⟩ (.int .i64 0)) from
    HB5.out.reR ((Only.set _ _ _ _).trans (Only.set _ _ _ _)) ((HB5.out.rd.set 3 _).set 2 _) (Nat.zero_le _) (by omega))
  have HO6 := hidF (HO5.out.trans ((BufAt.onlySet 3 (.int .i64 0)).trans (BufAt.onlySet (c := c) 2 (.int .i64 0))))
  have HQ6 := hidF (show bufQ (splice bf 0 (bufQ bf 4096 4096)) 0 0 = bufQ bf 4096 4096 from by rw [show 0 = 4096 - 4096 from Hq.out]; exact (slide_bytes H.out.len hwb).2)
  clear q2 f2 q3 f3 hlt5
  generalize (w5.setCell ⟨c.R, 3, none⟩ (.int .i64 0)).setCell ⟨c.R, 2, none⟩ (.int .i64 0) = w6 at HB6 HO6 ⊢
  generalize splice bf 0 (bufQ bf 4096 4096) = bf2 at HB6 HQ6
  have q0 := HB6.out.rd.cell 0 _ rfl
  have q1 := HB6.out.rd.cell 1 _ rfl
  have q3 := HB6.out.rd.cell 3 _ rfl
  have y1 : ¬ (4096 : Int) ≤ 0 := by omega
  have y2 : 0 ≤ (4096 : Int) := by omega
  have y3 : ¬ 4096 = 0 := by omega
  have hme := fun w => method_rd ⟨c.S, 0, none⟩ w
  go_quiet (fail)
  have HB6b := hidF (HB6.out.drewN nq)
  have HO6b := hidF (HO6.out.trans (Only.drewN c.own w6 nq))
  clear HB6 HO6 q0 q1 q3
  generalize w6.drewN nq = w6b at HB6b HO6b ⊢
  have q0 := HB6b.out.rd.cell 0 _ rfl
  have q1 := HB6b.out.rd.cell 1 _ rfl
  have q3 := HB6b.out.rd.cell 3 _ rfl
  go_wp2_with fail
  refine wp_loop_rounds 1 ?_
  rw [rounds_succ]
  go_wp2_with fail
  have HB7 := hidF (show BufAt c bf2 0 0 i .nilIface lb ls w6b.drew from HB6b.out.drewN 1)
  have HO7 := hidF (show Only c.own w w6b.drew from HO6b.out.trans (Only.drewN _ _ 1))
  obtain ⟨pv, hs⟩ := HB7.out.sr
  have HS7 := hidF hs
  clear hs
  have hil := HB7.out.il
  obtain ⟨len, hlen⟩ : ∃ len, len = c.data.length := ⟨_, rfl⟩
  rw [← hlen] at hil HS7
  have HL := hidF hlen
  clear hlen
  by_cases hend : i = len
  · have hcall := hidF (bytesRead_end c.S len c.scap i c.p pv c.eof (.slice (some ⟨c.F, 0, none⟩) (4096 - 0) (4096 - 0)) w6b.drew HS7.out (by omega) (by have := HB7.out.ok.small; have := HL.out; omega) HB7.out.eo)
    unfold eofV at hcall
    go_region_held3 (fun w' => w'.cell? ⟨c.R, 0, none⟩ = some (.slice (some ⟨c.F, 0, none⟩) 4096 4096) ∧ w'.cell? ⟨c.R, 1, none⟩ = some (.iface 46 (.pointer (some ⟨c.S, 0, none⟩))) ∧ w'.cell? ⟨c.R, 3, none⟩ = some (.int .i64 0)) (first | exact ⟨q0, q1, q3⟩ | exact ⟨q0', q1', q3'⟩) ((first | (go_at_call 69; refine hcall.out.mono ?_; rintro e w8 ⟨rfl, k8⟩; have HB8 := hidF (HB7.out.only k8 (fun _ hx => by cases hx)); have K8 := hidF k8; have q0' := HB8.out.rd.cell 0 _ rfl; have q1' := HB8.out.rd.cell 1 _ rfl; have q3' := HB8.out.rd.cell 3 _ rfl; clear k8)))
    clear q0 q1 q3
    have HO8 := hidF (HO7.out.trans (K8.out.mono (fun _ hx => by cases hx)))
    have q3 := HB8.out.rd.cell 3 _ rfl
    have f3 := HB8.out.rd.free 3
    have q4 := HB8.out.rd.cell 4 _ rfl
    have f4 := HB8.out.rd.free 4
    have hlt8 := HB8.out.rd.lt
    have z1 : IntKind.i64.wrap 0 = 0 := IntWalk.i64_in _ (by omega)
    clear hcall q0' q1' q3'
    go_wp2_with fail
    go_end0
    refine ⟨rfl, HO8.out.trans ((BufAt.onlySet 3 _).trans (BufAt.onlySet 4 _)), bf2, i, eofV c.eof, ?_, Nat.le_refl _, ?_, .inl ⟨rfl, hend.trans HL.out, rfl⟩⟩
    · rw [show 0 + (i - i) = 0 by have e : 0 = 0 := Hq.out; omega]
      exact HB8.out.reR ((Only.set _ _ _ _).trans (Only.set _ _ _ _)) ((HB8.out.rd.set 3 _).set 4 _) (Nat.zero_le _) (by omega)
    · rw [show 0 + (i - i) = 0 by have e : 0 = 0 := Hq.out; omega, Nat.sub_self, List.take_zero, List.append_nil]
      exact HQ6.out
  · have hdne : c.data ≠ [] := fun e => by have := HL.out; rw [e] at this; simp at this; omega
    have hp := HB7.out.ok.hp hdne
    obtain ⟨m, hm⟩ : ∃ m, m = Nat.min (c.data.length - i) (4096 - 0) := ⟨_, rfl⟩
    have hm1 : 1 ≤ m ∧ m ≤ 4096 - 0 ∧ m ≤ len - i := by rw [hm, ← HL.out]; exact ⟨Nat.le_min.2 ⟨by omega, by omega⟩, Nat.min_le_right _ _, Nat.min_le_left _ _⟩
    have hcall := hidF (bytesRead_more c.S c.D c.F 0 (4096 - 0) (4096 - 0) c.scap i m c.data pv 5 (Lib.byteCells bf2) w6b.drew (by have := HS7.out; rw [hp, HL.out] at this; exact this) (by rw [← HL.out]; omega) HB7.out.ok.cap HB7.out.ok.small HB7.out.dat HB7.out.bb HB7.out.ok.fs HB7.out.ok.df.symm HB7.out.ok.ds.symm (Nat.le_refl _) (by omega) (by rw [bc_len, HB7.out.len]; omega) hm)
    have Hp := hidF hp
    have z0 : ¬ (m : Int) < 0 := by omega
    have z1 : (0 : Int) < (m : Int) := by omega
    have z2 : 0 + (m : Int) ≤ 4096 := by omega
    have z3 : 0 ≤ 0 + (m : Int) := by omega
    have z4 : IntKind.i64.wrap (0 + (m : Int)) = 0 + (m : Int) := IntWalk.i64_in _ (by omega)
    clear hp hm hdne
    go_region_held3 (fun w' => w'.cell? ⟨c.R, 0, none⟩ = some (.slice (some ⟨c.F, 0, none⟩) 4096 4096) ∧ w'.cell? ⟨c.R, 1, none⟩ = some (.iface 46 (.pointer (some ⟨c.S, 0, none⟩))) ∧ w'.cell? ⟨c.R, 3, none⟩ = some (.int .i64 0)) (first | exact ⟨q0, q1, q3⟩ | exact ⟨q0', q1', q3'⟩) ((first | (go_at_call 69; refine hcall.out.mono ?_; rintro e w8 ⟨rfl, hs8, hf8, k8⟩; have hr8 := HB7.out.rd.only k8 (by simp [HB7.out.ok.rs, HB7.out.ok.rf]); have q0' := hr8.cell 0 _ rfl; have q1' := hr8.cell 1 _ rfl; have q3' := hr8.cell 3 _ rfl; have HR8 := hidF hr8; have HS8 := hidF hs8; have HF8 := hidF hf8; have K8 := hidF k8; clear hs8 hf8 k8 hr8)))
    clear q0 q1 q3 q0' q1' q3'
    have hs8 := HS8.out
    have hf8 := HF8.out
    have k8 := K8.out
    have hml : ((c.data.drop i).take m).length = m := by rw [List.length_take, List.length_drop, ← HL.out]; omega
    have HML := hidF hml
    have HMB := hidF (more_bytes (bf := bf2) (q := 0) (t := (c.data.drop i).take m) HB7.out.len (by rw [hml]; omega))
    have HB8 := hidF (show BufAt c (splice bf2 0 ((c.data.drop i).take m)) 0 0 (i + m) .nilIface lb ls w8 from by
      rw [bc_splice] at hf8
      rw [← Hp.out] at hs8
      exact HB7.out.put (k8.mono (by simp [BR.own])) (HB7.out.rd.only k8 (by simp [HB7.out.ok.rs, HB7.out.ok.rf])) hf8 ⟨_, hs8⟩ HMB.out.1 (Nat.zero_le _) (by omega) (by rw [← HL.out]; omega))
    have HO8 := hidF (HO7.out.trans (k8.mono (M := c.own) (by simp [BR.own])))
    have q3 := HB8.out.rd.cell 3 _ rfl
    have f3 := HB8.out.rd.free 3
    have hlt8 := HB8.out.rd.lt
    clear k8 hcall hs8 hf8 hml
    go_wp2_with fail
    go_end0
    refine ⟨rfl, HO8.out.trans (BufAt.onlySet 3 _), splice bf2 0 ((c.data.drop i).take m), i + m, .nilIface, ?_, by omega, ?_, .inr ⟨by omega, rfl⟩⟩
    · rw [show 0 + (i + m - i) = 0 + m by have e : 0 = 0 := Hq.out; omega]
      exact HB8.out.reR (Only.set _ _ _ _) (by have := HB8.out.rd.set 3 (.int .i64 (m : Int)); rw [Nat.zero_add]; exact this) (Nat.zero_le _) (by omega)
    · rw [show 0 + (i + m - i) = 0 + m by have e : 0 = 0 := Hq.out; omega, Nat.add_sub_cancel_left, ← HQ6.out]
      have := HMB.out.2
      rw [HML.out] at this
      exact this

theorem fill_any (c : BR) (bf : List UInt8) (r wi i : Nat) (lb ls : Int) (w : World) (h : BufAt c bf r wi i .nilIface lb ls w) (hw : wi - r < 4096) :
    Calls Tryd.prog 32 #[.pointer (some ⟨c.R, 0, none⟩)] w (FillOut c bf r wi i lb ls w) := by
  have h1 := h.rw
  have h2 := h.wb
  rcases (show r = 0 ∨ (0 < r ∧ r < 4096) ∨ (r = 4096 ∧ wi = 4096) by omega) with rfl | hr | ⟨rfl, rfl⟩
  · exact fill_zero c bf wi i lb ls w h hw
  · exact fill_some c bf r wi i lb ls w h hw hr
  · exact fill_full c bf i lb ls w h hw
end Go.Proofs.YtddnjdapdcopgaaDoor
