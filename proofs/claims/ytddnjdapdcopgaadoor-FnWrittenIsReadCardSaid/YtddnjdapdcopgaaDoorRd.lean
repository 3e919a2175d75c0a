/- (*bytes.Reader).Read: the walk. -/
import Derived.Test.YtddnjdapdcopgaaDoorIo
namespace Go.Proofs.YtddnjdapdcopgaaDoor
open Go.RowKit

/-- The cells of bytes' reader. -/
def rdS (src : Value) (i : Nat) (pv : Int) : List Value := [src, .int .i64 (i : Int), .int .i64 pv]
def nilE : Value := .nilIface
def eofV (a : Addr) : Value := .iface 89 (.pointer (some a))

set_option maxHeartbeats 1000000 in
theorem bytesRead_end (S len scap i : Nat) (p : Option Addr) (pv : Int) (eof : Addr) (v : Value) (w : World) (hS : Ob w S 74 (rdS (.slice p len scap) i pv)) (hi : len ≤ i) (_hb : i ≤ 1000000000) (he : w.cell? ⟨0, 0, none⟩ = some (eofV eof)) :
    Calls Tryd.prog 69 #[.pointer (some ⟨S, 0, none⟩), v] w fun e w' => e = .returned (.tuple #[.int .i64 0, eofV eof]) ∧ Only [] w w' := by
  have c0 := hS.cell 0 _ rfl
  have c1 := hS.cell 1 _ rfl
  have h1 : (len : Int) ≤ (i : Int) := by omega
  unfold eofV at he
  clear hS
  go_enter Tryd.func69, Tryd.ntmps69
  go_wp2_with fail
  go_quiet (fail)
  go_wp2_with fail
  go_quiet (fail)
  go_wp2_with fail
  go_ret2
  exact ⟨rfl, (Only.drewN _ _ _).trans (Only.drewN _ _ _)⟩

set_option maxHeartbeats 1000000 in
set_option maxRecDepth 100000 in
theorem bytesRead_more (S D g o n cap scap i m : Nat) (data : List UInt8) (pv : Int) (t : TypeId) (L : List Value) (w : World) (hS : Ob w S 74 (rdS (.slice (some ⟨D, 0, none⟩) data.length scap) i pv))
    (hi : i < data.length) (hcap : data.length ≤ scap) (hb : data.length ≤ 1000000000) (hd : ∀ j x, data[j]? = some x → w.cell? ⟨D, j, none⟩ = some (.int .u8 (x.toNat : Int))) (hg : Ob w g t L) (hgS : g ≠ S) (hgD : g ≠ D) (hSD : S ≠ D) (hn : n ≤ cap) (hnb : n ≤ 1000000) (hfit : o + n ≤ L.length) (hm : m = Nat.min (data.length - i) n) :
    Calls Tryd.prog 69 #[.pointer (some ⟨S, 0, none⟩), .slice (some ⟨g, o, none⟩) n cap] w fun e w' => e = .returned (.tuple #[.int .i64 (m : Int), .nilIface]) ∧ Ob w' S 74 (rdS (.slice (some ⟨D, 0, none⟩) data.length scap) (i + m) (-1)) ∧
      Ob w' g t (splice L o (Lib.byteCells ((data.drop i).take m))) ∧ Only [S, g] w w' := by
  have c0 := hS.cell 0 _ rfl
  have c1 := hS.cell 1 _ rfl
  have c2 := hS.cell 2 _ rfl
  have f2 := hS.free 2
  have hlt := hS.lt
  have HS := hidF hS
  obtain ⟨len, hlen⟩ : ∃ len, len = data.length := ⟨_, rfl⟩
  rw [← hlen] at hi hcap hb hm c0 HS ⊢
  have h1 : ¬ (len : Int) ≤ (i : Int) := by omega
  have hm2 : m ≤ len - i ∧ m ≤ n := by rw [hm]; exact ⟨Nat.min_le_left _ _, Nat.min_le_right _ _⟩
  have HL := hidF hlen
  have Hm := hidF hm
  have Hd := hidF hd
  have Hg := hidF hg
  have Hne := hidF (And.intro hgS (And.intro hgD hSD))
  have Hb := hidF (And.intro hb hnb)
  clear hS hlen hm hd hg hgS hgD hSD hb hnb
  go_enter Tryd.func69, Tryd.ntmps69
  go_wp2_with fail
  go_quiet (fail)
  have c2' : (w.drewN nq).cell? ⟨S, 2, none⟩ = some _ := c2
  have f2' : (w.drewN nq).frozen? ⟨S, 2, none⟩ = false := f2
  have hlt' : S < (w.drewN nq).heap.size := hlt
  clear c0 c1 c2 f2
  go_wp2_with fail
  have HS2 := hidF ((HS.out.drewN nq).set 2 (.int .i64 (-1)))
  have HO := hidF ((Only.drewN [S] w nq).trans (Only.set (w.drewN nq) S 2 (.int .i64 (-1))))
  generalize (w.drewN nq).setCell ⟨S, 2, none⟩ (.int .i64 (-1)) = w2 at HS2 HO ⊢
  have Hd2 := hidF (show ∀ j x, data[j]? = some x → w2.cell? ⟨D, j, none⟩ = some (.int .u8 (x.toNat : Int)) from fun j x hj => HO.out.cell (by simp; exact fun e => Hne.out.2.2 e.symm) (Hd.out j x hj))
  have Hg2 := hidF (Hg.out.only HO.out (by simp; exact Hne.out.1))
  have c0 := HS2.out.cell 0 _ rfl
  have c1 := HS2.out.cell 1 _ rfl
  have b1 : (i : Int) ≤ (scap : Int) := by omega
  have b2 : (i : Int) ≤ (len : Int) := by omega
  have b3 : ¬ scap = i := by omega
  clear c2' f2' hlt'
  go_still_tail 10, (by kernel_rfl)
  change wpList _ _ _ _ _ w2.drew
  have hcs : (Lib.byteCells ((data.drop i).take m)).length = m := by rw [bc_len, List.length_take, List.length_drop, ← HL.out]; omega
  have Hc1 := hidF (show (Lib.byteCells ((data.drop i).take m)).length = Nat.min (len - i) n from hcs.trans Hm.out)
  have Hc2 := hidF (show ∀ sp : Option Addr, sp = some ⟨D, i, none⟩ → 0 < (Lib.byteCells ((data.drop i).take m)).length → ∃ ad, sp = some ad ∧ ∀ j v, (Lib.byteCells ((data.drop i).take m))[j]? = some v → w2.drew.cell? (ad.add j) = some v from (by
    rintro sp rfl _
    refine ⟨_, rfl, fun j v hj => ?_⟩
    have hjm : j < m := by have := (List.getElem?_eq_some_iff.1 hj).1; omega
    unfold Lib.byteCells at hj
    rw [List.getElem?_map, List.getElem?_take, if_pos hjm, List.getElem?_drop] at hj
    cases hx : data[i + j]? with
    | none => rw [hx] at hj; cases hj
    | some x =>
      rw [hx] at hj
      obtain rfl := Option.some.inj hj
      have := Hd2.out (i + j) x hx
      rw [show (⟨D, i, none⟩ : Addr).add j = ⟨D, i + j, none⟩ from by unfold Addr.add; split <;> simp_all]
      exact this))
  have Hc3 := hidF (show o + (Lib.byteCells ((data.drop i).take m)).length ≤ L.length from by rw [hcs]; omega)
  have Hc4 := hidF (show ∀ v ∈ Lib.byteCells ((data.drop i).take m), v.oneCell' = true from fun v hv => by unfold Lib.byteCells at hv; obtain ⟨c, _, rfl⟩ := List.mem_map.1 hv; rfl)
  have hlt2 := HS2.out.lt
  have w1 : IntKind.i64.wrap ((i : Int) + (m : Int)) = ((i + m : Nat) : Int) := by have := Hb.out; have := hm2; rw [IntWalk.i64_in _ (by omega)]; omega
  have Hcm := hidF hcs
  clear hcs
  go_wp2_with (refine wpList_copy_ob rfl (.tmp 20) (.tmp 29) 22 22 rfl 5 (by kernel_rfl) (by kernel_rfl) g o n cap _ (len - i) _ rfl rfl L t (Hg2.out.drewN 1) (Lib.byteCells ((data.drop i).take m)) Hc1.out (Hc2.out _ rfl) Hc3.out Hc4.out ?_; intro w4 hob hgr; rw [Hcm.out]; have HOB := hidF hob.out; have HGR := hidF hgr.out; have HS4 := hidF ((HS2.out.drewN 1).same (HGR.out.block S hlt2 (fun e => Hne.out.1 (Option.some.inj e).symm))); have c1 := HS4.out.cell 1 _ rfl; have f1 := HS4.out.free 1; have hlt4 := HS4.out.lt; clear hob hgr)
  go_ret2
  refine ⟨rfl, HS4.out.set 1 _, (HOB.out.same ?_), ?_⟩
  · exact (grown_setAt w4 S 1 _).block g HOB.out.lt (fun e => Hne.out.1 (Option.some.inj e))
  · exact ((HO.out.mono (by simp)).trans ((Only.drewN _ w2 1).trans ((Only.of_grown HGR.out).mono (by simp)))).trans ((Only.set w4 S 1 _).mono (by simp))
end Go.Proofs.YtddnjdapdcopgaaDoor
