/- base64's encoder: Write. -/
import Derived.Test.YtbpoecfbcmdeeaaDoorEncD
import Derived.StillTailTactics
import Derived.Deep.RegionHeld3
namespace Go.Proofs.YtbpoecfbcmdeeaaDoor
open Go.RowKit

/-- Behind a Write: whole groups are written, the rest waits. -/
def EncAft (w0 : World) (wb eb b : Nat) (A l : List UInt8) (w : World) : Prop := ∃ z0 z1 z2 out, out.length = 1024 ∧ EncSt w0 wb eb b (A ++ b64L (l.take (l.length - l.length % 3))) (encS b wb z0 z1 z2 (l.length % 3) out) w ∧
  ∀ (j : Nat) (c : UInt8), (l.drop (l.length - l.length % 3))[j]? = some c → ([z0, z1, z2] : List Value)[j]? = some (.int .u8 (c.toNat : Int))
theorem encAft_mk {w0 : World} {wb eb b N r n : Nat} {A l : List UInt8} {z0 z1 z2 : Value} {out : List Value} {w4 : World} (hn : n = l.length) (hN : N = n - n % 3) (hr : N + r = n) (ho : out.length = 1024) (h : EncSt w0 wb eb b (A ++ b64L (l.take N)) (encS b wb z0 z1 z2 0 out) w4)
    (hz : ∀ (j : Nat) (v : Value), (Lib.byteCells (l.drop N))[j]? = some v → ([z0, z1, z2] : List Value)[j]? = some v) : EncAft w0 wb eb b A l (w4.setCell ⟨eb, 6, none⟩ (.int .i64 (r : Int))) := by
  have e1 : l.length - l.length % 3 = N := by omega
  have e2 : l.length % 3 = r := by omega
  unfold EncAft
  rw [e1, e2]
  refine ⟨z0, z1, z2, out, ho, h.set 6 (.int .i64 (r : Int)), fun j c hj => hz j _ ?_⟩
  unfold Lib.byteCells
  rw [List.getElem?_map, hj]
  rfl
theorem block_lt_of_cell' {l : List UInt8} {sg n : Nat} {w : World} (hs : ∀ j x, l[j]? = some x → w.cell? ⟨sg, 0 + j, none⟩ = some (.int .u8 (x.toNat : Int))) (hne : 3 ≤ n) (hn : n = l.length) : sg < w.heap.size :=
  block_lt_of_cell (hs 0 (l[0]'(by omega)) (List.getElem?_eq_getElem _))
theorem method_bw (a : Addr) (w : World) : (method 277 62 (.pointer (some a)) "Write").run Tryd.prog w = .ok (47, .pointer (some a)) w := by kernel_rfl

set_option maxHeartbeats 4000000 in
set_option maxRecDepth 100000 in
theorem EWrite_any (w0 : World) (wb eb b sg cap : Nat) (A l : List UInt8) (y0 y1 y2 : Value) (out : List Value) (w : World) (hst : EncSt w0 wb eb b A (encS b wb y0 y1 y2 0 out) w) (hout : out.length = 1024) (hA : A.length ≤ 100000)
    (hne : 3 ≤ l.length) (hl45 : l.length ≤ 45) (hcap : l.length ≤ cap) (hs : ∀ j x, l[j]? = some x → w.cell? ⟨sg, 0 + j, none⟩ = some (.int .u8 (x.toNat : Int))) (hap : sg ≠ eb) (hap2 : Apart w wb sg) :
    Calls Tryd.prog 109 #[.pointer (some ⟨eb, 0, none⟩), .slice (some ⟨sg, 0, none⟩) l.length cap] w fun e w' => e = .returned (.tuple #[.int .i64 l.length, .nilIface]) ∧ EncAft w0 wb eb b A l w' := by
  have q0 := hst.obj.cell 0 .nilIface rfl
  have q1 := hst.obj.cell 1 (.pointer (some ⟨b, 0, none⟩)) rfl
  have q2 := hst.obj.cell 2 (.iface 62 (.pointer (some ⟨wb, 0, none⟩))) rfl
  have q6 := hst.obj.cell 6 (.int .i64 0) rfl
  have hlt := hst.obj.lt
  obtain ⟨n, hn⟩ : ∃ n, n = l.length := ⟨_, rfl⟩
  rw [← hn] at hne hl45 hcap ⊢
  have HST := hidF hst
  have HS := hidF hs
  have HN := hidF hn
  have m3 : ¬ (n : Int) < 3 := by omega
  obtain ⟨N, hN⟩ : ∃ N, N = n - n % 3 := ⟨_, rfl⟩
  have hNi : (n : Int) - (n : Int) % 3 = (N : Int) := by omega
  have hN3 : 3 ≤ N ∧ N ≤ cap ∧ N ≤ n := by omega
  have hNc : (N : Int) ≤ (cap : Int) := by omega
  have HNN := hidF hN
  obtain ⟨r, hr⟩ : ∃ r, r = n - N := ⟨_, rfl⟩
  have hr2 : r ≤ 2 ∧ N + r = n := by omega
  have hrn : n - N = r := hr.symm
  have hri : (n : Int) - (N : Int) = (r : Int) := by omega
  have hr3 : ¬ (3 : Int) ≤ (r : Int) := by omega
  have HSG := hidF (block_lt_of_cell' hs hne hn)
  clear hst hs hn hN hr
  go_enter Tryd.func109, Tryd.ntmps109
  go_wp2_with fail
  refine wp_loop_rounds 2 ?_
  rw [rounds_succ]
  go_wp2_with fail
  go_still_tail 11, (by kernel_rfl)
  change wpList _ _ _ _ _ w.drew
  have HST1 := hidF (HST.out.drewN 1)
  have henc := hidF (encode_call HST1.out hout sg 0 N cap (l.take N) (by rw [List.length_take, ← HN.out]; omega) (by omega) (by omega) (fun j x hj => HS.out j x (by rw [List.getElem?_take] at hj; split at hj; exact hj; cases hj)) (.inl hap))
  go_wp2_with fail
  refine henc.out.mono ?_
  rintro e w1 ⟨rfl, hst2, hg2⟩
  have HST2 := hidF hst2
  have HG2 := hidF hg2
  have q0 := hst2.obj.cell 0 .nilIface rfl
  have q1 := hst2.obj.cell 1 (.pointer (some ⟨b, 0, none⟩)) rfl
  have q2 := hst2.obj.cell 2 (.iface 62 (.pointer (some ⟨wb, 0, none⟩))) rfl
  have q6 := hst2.obj.cell 6 (.int .i64 0) rfl
  have qf := hst2.obj.free 0
  have hM : (b64L (l.take N)).length = N / 3 * 4 := by rw [b64L_len, List.length_take, ← HN.out]; omega
  have hMi : (N : Int) / 3 * 4 = ((N / 3 * 4 : Nat) : Int) := by omega
  obtain ⟨M, hM2⟩ : ∃ M, M = N / 3 * 4 := ⟨_, rfl⟩
  rw [← hM2] at hM hMi
  have hM3 : M ≤ 60 ∧ 0 < M := by omega
  have hcall := hidF (fun (W : World) (HW : EncSt w0 wb eb b A (encS b wb y0 y1 y2 0 (splice out 0 (Lib.byteCells (b64L (l.take N))))) W) => write_call (b64L (l.take N)) M 1024 HW hM (by omega) (by omega))
  have hlt2 := hst2.obj.lt
  have hMc : (M : Int) ≤ 1024 := by omega
  have d1 : IntKind.i64.wrap ((N : Int) / 3) = (N : Int) / 3 := IntWalk.i64_in _ (by omega)
  have d2 : IntKind.i64.wrap ((N : Int) / 3 * 4) = (M : Int) := by rw [hMi]; exact IntWalk.i64_in _ (by omega)
  clear hst2 hg2 henc hM hM2 hMi
  go_wp2_with fail
  have hme := fun w => method_bw ⟨wb, 0, none⟩ w
  go_region_held3 (fun w' => w'.cell? ⟨eb, 2, none⟩ = some (.iface 62 (.pointer (some ⟨wb, 0, none⟩)))) (first | exact q2 | exact q2' | exact (HST3.out.obj.set 0 _).cell 2 _ rfl) ((first | (go_at_call 47; refine (hcall.out _ (HST2.out.drewN _)).mono ?_; rintro e w2 ⟨rfl, hst3, hb3⟩; have c0 := hst3.obj.cell 0 .nilIface rfl; have f0 := hst3.obj.free 0; have q2' := hst3.obj.cell 2 _ rfl; have HST3 := hidF hst3; have HB3 := hidF hb3; clear hst3 hb3)))
  have HST4 := hidF (show EncSt w0 wb eb b (A ++ b64L (l.take N)) (encS b wb y0 y1 y2 0 (splice out 0 (Lib.byteCells (b64L (l.take N))))) (w2.setCell ⟨eb, 0, none⟩ .nilIface) from HST3.out.set 0 .nilIface)
  have hapw : Apart (w.drewN 1) wb sg := hap2
  have hap1 : Apart w1 wb sg := apart_put hapw HG2.out (fun e => HST.out.ap.1 e) HST.out.bld.bld.lt
  have hapd : Apart (w1.drewN 1) wb sg := hap1
  have HS1 : ∀ j x, l[j]? = some x → (w1.drewN 1).cell? ⟨sg, 0 + j, none⟩ = some (.int .u8 (x.toNat : Int)) := fun j x hj => grown_cell HG2.out hap (show (w.drewN 1).cell? _ = _ from HS.out j x hj)
  have HS4 := hidF (show ∀ j x, l[j]? = some x → (w2.setCell ⟨eb, 0, none⟩ .nilIface).cell? ⟨sg, 0 + j, none⟩ = some (.int .u8 (x.toNat : Int)) from fun j x hj => grown_cell (grown_setAt _ _ _ _) hap (HB3.out.cell hapd (HS1 j x hj)))
  have HA4 := hidF (show Apart (w2.setCell ⟨eb, 0, none⟩ .nilIface) wb sg from apart_put (HB3.out.kept sg (Nat.lt_of_lt_of_le HSG.out HG2.out.size) hapd).2 (grown_setAt _ _ _ _) (fun e => HST.out.ap.1 e) HST3.out.bld.bld.lt)
  clear hapw hap1 hapd HS1
  generalize w2.setCell ⟨eb, 0, none⟩ .nilIface = w3 at HST4 HS4 HA4 ⊢
  have p0 := HST4.out.obj.cell 0 .nilIface rfl
  have p6 := HST4.out.obj.cell 6 (.int .i64 0) rfl
  have pf := HST4.out.obj.free 6
  have hlt3 := HST4.out.obj.lt
  try clear q0
  try clear q1
  try clear q2
  try clear q6
  try clear qf
  try clear c0
  try clear f0
  try clear q2'
  have hcs : (Lib.byteCells (l.drop N)).length = r := by rw [bc_len, List.length_drop, ← HN.out]; exact hrn
  have Hcs := hidF hcs
  have Hc1 := hidF (show (Lib.byteCells (l.drop N)).length = Nat.min r 3 from hcs.trans (Nat.min_eq_left (by omega)).symm)
  have Hc2 := hidF (show ∀ sp : Option Addr, sp = some ⟨sg, N, none⟩ → 0 < (Lib.byteCells (l.drop N)).length → ∃ ad, sp = some ad ∧ ∀ j v, (Lib.byteCells (l.drop N))[j]? = some v → w3.cell? (ad.add j) = some v from (by
    rintro sp rfl _
    refine ⟨_, rfl, fun j v hj => ?_⟩
    unfold Lib.byteCells at hj
    rw [List.getElem?_map, List.getElem?_drop] at hj
    cases hx : l[N + j]? with
    | none => rw [hx] at hj; cases hj
    | some x =>
      rw [hx] at hj
      obtain rfl := Option.some.inj hj
      have := HS4.out (N + j) x hx
      rw [Nat.zero_add] at this
      rw [show (⟨sg, N, none⟩ : Addr).add j = ⟨sg, N + j, none⟩ from by unfold Addr.add; split <;> simp_all]
      exact this))
  have Hc3 := hidF (show 3 + (Lib.byteCells (l.drop N)).length ≤ (encS b wb y0 y1 y2 0 (splice out 0 (Lib.byteCells (b64L (l.take N))))).length from by rw [hcs, encS_len]; omega)
  have Hc4 := hidF (show ∀ v ∈ Lib.byteCells (l.drop N), v.oneCell' = true from fun v hv => by unfold Lib.byteCells at hv; obtain ⟨c, _, rfl⟩ := List.mem_map.1 hv; rfl)
  have Hc5 := hidF (show cap = N → ∀ sp : Option Addr, 0 < (Lib.byteCells (l.drop N)).length → ∃ ad, sp = some ad ∧ ∀ j v, (Lib.byteCells (l.drop N))[j]? = some v → w3.cell? (ad.add j) = some v from fun h sp h2 => by omega)
  have hol : (splice out 0 (Lib.byteCells (b64L (l.take N)))).length = 1024 := by
    have := b64L_len (l.take N)
    rw [List.length_take, ← HN.out] at this
    rw [length_splice _ _ _ (by rw [bc_len]; omega)]; exact hout
  obtain ⟨out', hout'⟩ : ∃ out', out' = splice out 0 (Lib.byteCells (b64L (l.take N))) := ⟨_, rfl⟩
  rw [← hout'] at HST4 Hc3 hol
  obtain ⟨z0, z1, z2, hz, hzc⟩ := encS_buf b wb y0 y1 y2 0 out' (Lib.byteCells (l.drop N)) (by omega)
  have Hz := hidF hz
  have Hzc := hidF hzc
  clear hcs hz hzc hout'
  go_wp2_with fail
  all_goals rw [rounds_succ]
  case inr hcapN =>
    go_wp2_with (refine wpList_copy_ob rfl (.tmp 172) (.tmp 173) 39 39 rfl 5 (by kernel_rfl) (by kernel_rfl) eb 3 3 3 _ r _ rfl rfl _ _ HST4.out.obj (Lib.byteCells (l.drop N)) Hc1.out (Hc2.out _ rfl) Hc3.out Hc4.out ?_; intro w4 hob hgr; have hob3 := Hz.out ▸ hob.out; have p6' := hob3.cell 6 (.int .i64 0) rfl; have pf' := hob3.free 6; have HOB := hidF hob3; clear hob hob3)
    go_ret2
    exact ⟨by rw [← hr2.2]; go_num, encAft_mk HN.out HNN.out hr2.2 hol (HST4.out.put hgr.out HOB.out) Hzc.out⟩
  case inl =>
    have hr0 : r = 0 := by omega
    have Hm := hidF (show Nat.min r 3 = 0 by rw [hr0]; rfl)
    have Hob0 := hidF (show Ob w3 eb 117 (encS b wb z0 z1 z2 0 out') from by have h := Hz.out; rw [show Lib.byteCells (l.drop N) = [] from List.eq_nil_of_length_eq_zero (Hc1.out.trans Hm.out), splice_nil] at h; rw [← h]; exact HST4.out.obj)
    go_wp2_with (refine wpList_copy_nothing rfl (.tmp 172) (.tmp 173) 39 39 rfl 5 (by kernel_rfl) (by kernel_rfl) _ _ 3 3 r _ rfl rfl Hm.out ?_)
    go_ret2
    have hNn : N = n := by omega
    exact ⟨by rw [← hNn]; first | rfl | go_num, encAft_mk (r := 0) HN.out HNN.out hNn hol (HST4.out.put (grown_refl _ _) Hob0.out) Hzc.out⟩
end Go.Proofs.YtbpoecfbcmdeeaaDoor
