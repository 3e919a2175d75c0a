/- base64's encoder: Close. -/
import Derived.Test.YtbpoecfbcmdeeaaDoorEncE
namespace Go.Proofs.YtbpoecfbcmdeeaaDoor
open Go.RowKit

set_option maxHeartbeats 4000000 in
set_option maxRecDepth 100000 in
theorem EWrite_small (w0 : World) (wb eb b sg cap : Nat) (A l : List UInt8) (y0 y1 y2 : Value) (out : List Value) (w : World) (hst : EncSt w0 wb eb b A (encS b wb y0 y1 y2 0 out) w) (hout : out.length = 1024)
    (hne : l.length < 3) (hs : ∀ j x, l[j]? = some x → w.cell? ⟨sg, 0 + j, none⟩ = some (.int .u8 (x.toNat : Int))) :
    Calls Tryd.prog 109 #[.pointer (some ⟨eb, 0, none⟩), .slice (some ⟨sg, 0, none⟩) l.length cap] w fun e w' => e = .returned (.tuple #[.int .i64 l.length, .nilIface]) ∧ EncAft w0 wb eb b A l w' := by
  have q0 := hst.obj.cell 0 .nilIface rfl
  have q6 := hst.obj.cell 6 (.int .i64 0) rfl
  have hlt := hst.obj.lt
  obtain ⟨n, hn⟩ : ∃ n, n = l.length := ⟨_, rfl⟩
  rw [← hn] at hne ⊢
  have HST := hidF hst
  have HN := hidF hn
  have m3 : ¬ (3 : Int) ≤ (n : Int) := by omega
  have hcs : (Lib.byteCells (l.drop 0)).length = n := by rw [bc_len, List.drop_zero]; exact hn.symm
  have Hc1 := hidF (show (Lib.byteCells (l.drop 0)).length = Nat.min n 3 from hcs.trans (Nat.min_eq_left (by omega)).symm)
  have Hc2 := hidF (show ∀ sp : Option Addr, sp = some ⟨sg, 0, none⟩ → 0 < (Lib.byteCells (l.drop 0)).length → ∃ ad, sp = some ad ∧ ∀ j v, (Lib.byteCells (l.drop 0))[j]? = some v → w.cell? (ad.add j) = some v from (by
    rintro sp rfl _
    refine ⟨_, rfl, fun j v hj => ?_⟩
    unfold Lib.byteCells at hj
    rw [List.getElem?_map, List.drop_zero] at hj
    cases hx : l[j]? with
    | none => rw [hx] at hj; cases hj
    | some x =>
      rw [hx] at hj
      obtain rfl := Option.some.inj hj
      have := hs j x hx
      rw [show (⟨sg, 0, none⟩ : Addr).add j = ⟨sg, 0 + j, none⟩ from by unfold Addr.add; split <;> simp_all]
      exact this))
  have Hc3 := hidF (show 3 + (Lib.byteCells (l.drop 0)).length ≤ (encS b wb y0 y1 y2 0 out).length from by rw [hcs, encS_len]; omega)
  have Hc4 := hidF (show ∀ v ∈ Lib.byteCells (l.drop 0), v.oneCell' = true from fun v hv => by unfold Lib.byteCells at hv; obtain ⟨c, _, rfl⟩ := List.mem_map.1 hv; rfl)
  obtain ⟨z0, z1, z2, hz, hzc⟩ := encS_buf b wb y0 y1 y2 0 out (Lib.byteCells (l.drop 0)) (by omega)
  have Hz := hidF hz
  have Hzc := hidF hzc
  have w1 : IntKind.i64.wrap (n : Int) = (n : Int) := IntWalk.i64_in _ (by omega)
  have hA0 : A ++ b64L (l.take 0) = A := by simp [b64L]
  have HA0 := hidF hA0
  clear hcs hz hzc hst hs hn hA0
  go_enter Tryd.func109, Tryd.ntmps109
  go_wp2_with fail
  refine wp_loop_rounds 1 ?_
  rw [rounds_succ]
  go_wp2_with (refine wpList_copy_ob rfl (.tmp 172) (.tmp 173) 39 39 rfl 5 (by kernel_rfl) (by kernel_rfl) eb 3 3 3 _ n _ rfl rfl _ _ HST.out.obj (Lib.byteCells (l.drop 0)) Hc1.out (Hc2.out _ rfl) Hc3.out Hc4.out ?_; intro w4 hob hgr; have hob3 := Hz.out ▸ hob.out; have p6' := hob3.cell 6 (.int .i64 0) rfl; have pf' := hob3.free 6; have HOB := hidF hob3; clear hob hob3)
  go_ret2
  exact ⟨rfl, encAft_mk (N := 0) HN.out (by omega) (by omega) hout (by rw [HA0.out]; exact HST.out.put hgr.out HOB.out) Hzc.out⟩
end Go.Proofs.YtbpoecfbcmdeeaaDoor

namespace Go.Proofs.YtbpoecfbcmdeeaaDoor
open Go.RowKit

/-- Nothing waits: Close does nothing. -/
theorem Close_none (w0 : World) (wb eb b : Nat) (A : List UInt8) (y0 y1 y2 : Value) (out : List Value) (w : World) (hst : EncSt w0 wb eb b A (encS b wb y0 y1 y2 0 out) w) :
    Calls Tryd.prog 108 #[.pointer (some ⟨eb, 0, none⟩)] w fun e w' => e = .returned .nilIface ∧ w = w' := by
  have q0 := hst.obj.cell 0 .nilIface rfl
  have q6 := hst.obj.cell 6 (.int .i64 0) rfl
  go_enter Tryd.func108, Tryd.ntmps108
  go_wp2_with fail
  go_ret
  exact ⟨rfl, rfl⟩

set_option maxHeartbeats 4000000 in
set_option maxRecDepth 100000 in
/-- One byte or two wait: they are written with signs that fill the group. -/
theorem Close_some (w0 : World) (wb eb b r : Nat) (A rest : List UInt8) (z0 z1 z2 : Value) (out : List Value) (w : World) (hst : EncSt w0 wb eb b A (encS b wb z0 z1 z2 r out) w) (hout : out.length = 1024) (hA : A.length ≤ 200000)
    (hr : rest.length = r) (hr1 : 1 ≤ r ∧ r ≤ 2) (hz : ∀ (j : Nat) (c : UInt8), rest[j]? = some c → ([z0, z1, z2] : List Value)[j]? = some (.int .u8 (c.toNat : Int))) :
    Calls Tryd.prog 108 #[.pointer (some ⟨eb, 0, none⟩)] w fun e w' => e = .returned .nilIface ∧ ∃ out', out'.length = 1024 ∧ EncSt w0 wb eb b (A ++ b64L rest) (encS b wb z0 z1 z2 0 out') w' := by
  have q0 := hst.obj.cell 0 .nilIface rfl
  have q1 := hst.obj.cell 1 (.pointer (some ⟨b, 0, none⟩)) rfl
  have q2 := hst.obj.cell 2 (.iface 62 (.pointer (some ⟨wb, 0, none⟩))) rfl
  have q6 := hst.obj.cell 6 (.int .i64 (r : Int)) rfl
  have hlt := hst.obj.lt
  have HST := hidF hst
  have HR := hidF hr
  have HZ := hidF hz
  have Hout := hidF hout
  have r0 : (0 : Int) < (r : Int) := by omega
  have r3 : (r : Int) ≤ 3 := by omega
  clear hst hr hz hout
  go_enter Tryd.func108, Tryd.ntmps108
  go_wp2_with fail
  go_still_tail 16, (by kernel_rfl)
  change wpList _ _ _ _ _ w.drew
  have HST1 := hidF (HST.out.drewN 1)
  have henc := hidF (encode_call HST1.out Hout.out eb 3 r 3 rest HR.out (by omega) (by omega) (fun j x hj => HST1.out.obj.cell _ _ (by
    have h3 := HZ.out j x hj
    have hj3 : j < 3 := by have := (List.getElem?_eq_some_iff.1 hj).1; have := HR.out; omega
    rw [← h3]
    match j, hj3 with
    | 0, _ => rfl
    | 1, _ => rfl
    | 2, _ => rfl)) (.inr (by omega)))
  go_wp2_with fail
  refine henc.out.mono ?_
  rintro e w1 ⟨rfl, hst2, hg2⟩
  have HST2 := hidF hst2
  have q0 := hst2.obj.cell 0 .nilIface rfl
  have q1 := hst2.obj.cell 1 (.pointer (some ⟨b, 0, none⟩)) rfl
  have q2 := hst2.obj.cell 2 (.iface 62 (.pointer (some ⟨wb, 0, none⟩))) rfl
  have q6 := hst2.obj.cell 6 (.int .i64 (r : Int)) rfl
  have qf := hst2.obj.free 0
  have hlt2 := hst2.obj.lt
  have hM : (b64L rest).length = 4 := by rw [b64L_len, HR.out]; omega
  have hlen := hidF (fun W (HW : EncAt W b) => EncodedLen_any b r W (by omega) HW)
  have h4 : (r + 2) / 3 * 4 = 4 := by omega
  have hcall := hidF (fun (W : World) (HW : EncSt w0 wb eb b A (encS b wb z0 z1 z2 r (splice out 0 (Lib.byteCells (b64L rest)))) W) => write_call (b64L rest) 4 1024 HW hM (by omega) (by rw [Hout.out]; omega))
  clear hst2 hg2 henc hM
  go_wp2_with fail
  have hme := fun w => method_bw ⟨wb, 0, none⟩ w
  go_region_held3 (fun w' => w'.cell? ⟨eb, 1, none⟩ = some (.pointer (some ⟨b, 0, none⟩)) ∧ w'.cell? ⟨eb, 2, none⟩ = some (.iface 62 (.pointer (some ⟨wb, 0, none⟩))) ∧ w'.cell? ⟨eb, 6, none⟩ = some (.int .i64 (r : Int))) (first | exact ⟨q1, q2, q6⟩ | exact ⟨q1', q2', q6'⟩ | exact ⟨(HST3.out.obj.set 0 _).cell 1 _ rfl, (HST3.out.obj.set 0 _).cell 2 _ rfl, (HST3.out.obj.set 0 _).cell 6 _ rfl⟩) ((first | (go_at_call 58; refine (hlen.out _ (HST2.out.drewN _).enc).mono ?_; rintro e w2 ⟨rfl, rfl⟩; rw [h4]) | (go_at_call 47; refine (hcall.out _ (HST2.out.drewN _)).mono ?_; rintro e w2 ⟨rfl, hst3, hb3⟩; have c0 := hst3.obj.cell 0 .nilIface rfl; have f0 := hst3.obj.free 0; have q1' := hst3.obj.cell 1 _ rfl; have q2' := hst3.obj.cell 2 _ rfl; have q6' := hst3.obj.cell 6 _ rfl; have HST3 := hidF hst3; clear hst3 hb3)))
  have HST4 := hidF (show EncSt w0 wb eb b (A ++ b64L rest) (encS b wb z0 z1 z2 r (splice out 0 (Lib.byteCells (b64L rest)))) (w2.setCell ⟨eb, 0, none⟩ .nilIface) from HST3.out.set 0 .nilIface)
  generalize w2.setCell ⟨eb, 0, none⟩ .nilIface = w3 at HST4 ⊢
  have p0 := HST4.out.obj.cell 0 .nilIface rfl
  have p6 := HST4.out.obj.cell 6 (.int .i64 (r : Int)) rfl
  have pf := HST4.out.obj.free 6
  have hlt3 := HST4.out.obj.lt
  try clear q0
  try clear q1
  try clear q2
  try clear q6
  try clear qf
  try clear c0
  try clear f0
  try clear q1'
  try clear q2'
  try clear q6'
  have HST5 := hidF (show EncSt w0 wb eb b (A ++ b64L rest) (encS b wb z0 z1 z2 0 (splice out 0 (Lib.byteCells (b64L rest)))) (w3.setCell ⟨eb, 6, none⟩ (.int .i64 0)) from HST4.out.set 6 (.int .i64 0))
  have p5 := HST5.out.obj.cell 0 .nilIface rfl
  go_wp2_with fail
  go_ret
  exact ⟨rfl, _, by rw [length_splice _ _ _ (by rw [bc_len, b64L_len, HR.out, Hout.out]; omega)]; exact Hout.out, HST5.out⟩

/-- The encoder waits for more, nothing is in its cells. -/
def EncReady (w0 : World) (wb eb b : Nat) (A : List UInt8) (w : World) : Prop := ∃ y0 y1 y2 out, out.length = 1024 ∧ EncSt w0 wb eb b A (encS b wb y0 y1 y2 0 out) w

theorem Write_ready (w0 : World) (wb eb b sg cap : Nat) (A l : List UInt8) (w : World) (h : EncReady w0 wb eb b A w) (hA : A.length ≤ 100000)
    (hl45 : l.length ≤ 45) (hcap : l.length ≤ cap) (hs : ∀ j x, l[j]? = some x → w.cell? ⟨sg, 0 + j, none⟩ = some (.int .u8 (x.toNat : Int))) (hap : sg ≠ eb) (hap2 : Apart w wb sg) :
    Calls Tryd.prog 109 #[.pointer (some ⟨eb, 0, none⟩), .slice (some ⟨sg, 0, none⟩) l.length cap] w fun e w' => e = .returned (.tuple #[.int .i64 l.length, .nilIface]) ∧ EncAft w0 wb eb b A l w' := by
  obtain ⟨y0, y1, y2, out, hout, hst⟩ := h
  by_cases h3 : 3 ≤ l.length
  · exact EWrite_any w0 wb eb b sg cap A l y0 y1 y2 out w hst hout hA h3 hl45 hcap hs hap hap2
  · exact EWrite_small w0 wb eb b sg cap A l y0 y1 y2 out w hst hout (by omega) hs

theorem Close_aft (w0 : World) (wb eb b : Nat) (A l : List UInt8) (w : World) (h : EncAft w0 wb eb b A l w) (hA : A.length ≤ 100000) (hl : l.length ≤ 45) :
    Calls Tryd.prog 108 #[.pointer (some ⟨eb, 0, none⟩)] w fun e w' => e = .returned .nilIface ∧ EncReady w0 wb eb b (A ++ b64L l) w' := by
  obtain ⟨z0, z1, z2, out, hout, hst, hz⟩ := h
  by_cases h3 : l.length % 3 = 0
  · rw [h3, Nat.sub_zero, List.take_of_length_le (Nat.le_refl _)] at hst
    refine (Close_none w0 wb eb b _ z0 z1 z2 out w hst).mono ?_
    rintro e w' ⟨rfl, rfl⟩
    exact ⟨rfl, z0, z1, z2, out, hout, hst⟩
  · have hb : b64L l = b64L (l.take (l.length - l.length % 3)) ++ b64L (l.drop (l.length - l.length % 3)) := by
      rw [← b64L_app _ _ (by rw [List.length_take]; omega), List.take_append_drop]
    refine (Close_some w0 wb eb b (l.length % 3) _ (l.drop (l.length - l.length % 3)) z0 z1 z2 out w hst hout (by rw [List.length_append, b64L_len, List.length_take]; omega) (by rw [List.length_drop]; omega) (by omega) hz).mono ?_
    rintro e w' ⟨rfl, out', ho, h2⟩
    rw [hb, ← List.append_assoc]
    exact ⟨rfl, z0, z1, z2, out', ho, h2⟩
end Go.Proofs.YtbpoecfbcmdeeaaDoor
