/- base64's decodeQuantum at the last four digits, of which one or two fill up: the walk. -/
import Derived.Test.YtbpoecfbcmdeeaaDoorQuant
namespace Go.Proofs.YtbpoecfbcmdeeaaDoor
open Go.RowKit

set_option maxHeartbeats 4000000 in
set_option maxRecDepth 100000 in
theorem quantB (b g o dn dcap sg p scap : Nat) (c0 c1 c2 : UInt8) (a0 a1 a2 : Nat) (x0 x1 : Value) (w : World) (he : EncAt w b) (hgb : g ≠ b)
    (h0 : b64V c0 = some a0) (h1 : b64V c1 = some a1) (h2 : b64V c2 = some a2) (hp : p ≤ 1000000) (hdn : 2 ≤ dn)
    (s0 : w.cell? ⟨sg, p, none⟩ = some (.int .u8 (c0.toNat : Int))) (s1 : w.cell? ⟨sg, p + 1, none⟩ = some (.int .u8 (c1.toNat : Int))) (s2 : w.cell? ⟨sg, p + 2, none⟩ = some (.int .u8 (c2.toNat : Int))) (s3 : w.cell? ⟨sg, p + 3, none⟩ = some (.int .u8 61))
    (d0 : w.cell? ⟨g, o, none⟩ = some x0) (d1 : w.cell? ⟨g, o + 1, none⟩ = some x1)
    (f0 : w.frozen? ⟨g, o, none⟩ = false) (f1 : w.frozen? ⟨g, o + 1, none⟩ = false) :
    Calls Tryd.prog 77 #[.pointer (some ⟨b, 0, none⟩), .slice (some ⟨g, o, none⟩) dn dcap, .slice (some ⟨sg, 0, none⟩) (p + 4) scap, .int .i64 p] w fun e w' => e = .returned (.tuple #[.int .i64 ((p + 4 : Nat) : Int), .int .i64 2, .nilIface]) ∧ Puts w w' g o ((three (num4 a0 a1 a2 0)).take 2) := by
  have hbl := he.lt
  have hgl := block_lt_of_cell d0
  have hsl := block_lt_of_cell s0
  have m0 : (0 : Int) < (dn : Int) := by omega
  have m1 : (1 : Int) < (dn : Int) := by omega
  have l0 := b64V_lt _ _ h0
  have e0 := encAt_some he c0 a0 h0
  have n0 : ((a0 : Int) == 255) = false := beq_eq_false_iff_ne.2 (by omega)
  have r0 := c0.toNat_lt
  have k0 : (c0.toNat : Int) < 256 := by omega
  have l1 := b64V_lt _ _ h1
  have e1 := encAt_some he c1 a1 h1
  have n1 : ((a1 : Int) == 255) = false := beq_eq_false_iff_ne.2 (by omega)
  have r1 := c1.toNat_lt
  have k1 : (c1.toNat : Int) < 256 := by omega
  have l2 := b64V_lt _ _ h2
  have e2 := encAt_some he c2 a2 h2
  have n2 : ((a2 : Int) == 255) = false := beq_eq_false_iff_ne.2 (by omega)
  have r2 := c2.toNat_lt
  have k2 : (c2.toNat : Int) < 256 := by omega
  have e61 : w.cell? ⟨b, 125, none⟩ = some (.int .u8 255) := by simpa using encAt_none he 61 (by decide)
  have hpad := encAt_pad he
  have t0 : ((p : Int) + 4 == (p : Int)) = false := beq_eq_false_iff_ne.2 (by omega)
  have t1 : ((p : Int) + 4 == (p : Int) + 1) = false := beq_eq_false_iff_ne.2 (by omega)
  have t2 : ((p : Int) + 4 == (p : Int) + 1 + 1) = false := beq_eq_false_iff_ne.2 (by omega)
  have t3 : ((p : Int) + 4 == (p : Int) + 1 + 1 + 1) = false := beq_eq_false_iff_ne.2 (by omega)
  have hv := quant_val a0 a1 a2 0 l0 l1 l2 (by omega)
  simp only [Int.natCast_zero] at hv
  obtain ⟨X, hX⟩ : ∃ X, X = num4 a0 a1 a2 0 := ⟨_, rfl⟩
  rw [← hX] at hv ⊢
  have HX := hidF hX
  clear hX
  have hbg : ¬ b = g := fun e => hgb e.symm
  have hst := encAt_strict he
  have HE := hidF he
  clear he h0 h1 h2
  go_enter Tryd.func77, Tryd.ntmps77
  go_wp2_with (refine wpList_load_at rfl 31 (.tmp 19) rfl b 64 rfl (dmapL 64) _ (encAt_dmap (HE.out.alloc _)) Tryd.underlying31 rfl dmapLen ?_; intro v31)
  refine wp_loop_rounds 5 ?_
  rw [rounds_succ]
  go_wp2_with fail
  rw [rounds_succ]
  go_wp2_with fail
  rw [rounds_succ]
  go_wp2_with fail
  rw [rounds_succ]
  go_wp2_with fail
  refine wp_loop_rounds 1 ?_
  rw [rounds_succ]
  go_wp2_with fail
  go_ret3
  refine ⟨rfl, ?_⟩
  exact (((Puts.nil w g _).front _ _ (byte1 X)).front _ _ (byte0 X)).alloc hgl _

set_option maxHeartbeats 4000000 in
set_option maxRecDepth 100000 in
theorem quantC (b g o dn dcap sg p scap : Nat) (c0 c1 : UInt8) (a0 a1 : Nat) (x0 : Value) (w : World) (he : EncAt w b) (hgb : g ≠ b)
    (h0 : b64V c0 = some a0) (h1 : b64V c1 = some a1) (hp : p ≤ 1000000) (hdn : 1 ≤ dn)
    (s0 : w.cell? ⟨sg, p, none⟩ = some (.int .u8 (c0.toNat : Int))) (s1 : w.cell? ⟨sg, p + 1, none⟩ = some (.int .u8 (c1.toNat : Int))) (s2 : w.cell? ⟨sg, p + 2, none⟩ = some (.int .u8 61)) (s3 : w.cell? ⟨sg, p + 3, none⟩ = some (.int .u8 61))
    (d0 : w.cell? ⟨g, o, none⟩ = some x0)
    (f0 : w.frozen? ⟨g, o, none⟩ = false) :
    Calls Tryd.prog 77 #[.pointer (some ⟨b, 0, none⟩), .slice (some ⟨g, o, none⟩) dn dcap, .slice (some ⟨sg, 0, none⟩) (p + 4) scap, .int .i64 p] w fun e w' => e = .returned (.tuple #[.int .i64 ((p + 4 : Nat) : Int), .int .i64 1, .nilIface]) ∧ Puts w w' g o ((three (num4 a0 a1 0 0)).take 1) := by
  have hbl := he.lt
  have hgl := block_lt_of_cell d0
  have hsl := block_lt_of_cell s0
  have m0 : (0 : Int) < (dn : Int) := by omega
  have l0 := b64V_lt _ _ h0
  have e0 := encAt_some he c0 a0 h0
  have n0 : ((a0 : Int) == 255) = false := beq_eq_false_iff_ne.2 (by omega)
  have r0 := c0.toNat_lt
  have k0 : (c0.toNat : Int) < 256 := by omega
  have l1 := b64V_lt _ _ h1
  have e1 := encAt_some he c1 a1 h1
  have n1 : ((a1 : Int) == 255) = false := beq_eq_false_iff_ne.2 (by omega)
  have r1 := c1.toNat_lt
  have k1 : (c1.toNat : Int) < 256 := by omega
  have e61 : w.cell? ⟨b, 125, none⟩ = some (.int .u8 255) := by simpa using encAt_none he 61 (by decide)
  have hpad := encAt_pad he
  have t0 : ((p : Int) + 4 == (p : Int)) = false := beq_eq_false_iff_ne.2 (by omega)
  have t1 : ((p : Int) + 4 == (p : Int) + 1) = false := beq_eq_false_iff_ne.2 (by omega)
  have t2 : ((p : Int) + 4 == (p : Int) + 1 + 1) = false := beq_eq_false_iff_ne.2 (by omega)
  have t3 : ((p : Int) + 4 == (p : Int) + 1 + 1 + 1) = false := beq_eq_false_iff_ne.2 (by omega)
  have hv := quant_val a0 a1 0 0 l0 l1 (by omega) (by omega)
  simp only [Int.natCast_zero, Int.zero_mul] at hv
  obtain ⟨X, hX⟩ : ∃ X, X = num4 a0 a1 0 0 := ⟨_, rfl⟩
  rw [← hX] at hv ⊢
  have HX := hidF hX
  clear hX
  have hbg : ¬ b = g := fun e => hgb e.symm
  have hst := encAt_strict he
  have HE := hidF he
  clear he h0 h1
  go_enter Tryd.func77, Tryd.ntmps77
  go_wp2_with (refine wpList_load_at rfl 31 (.tmp 19) rfl b 64 rfl (dmapL 64) _ (encAt_dmap (HE.out.alloc _)) Tryd.underlying31 rfl dmapLen ?_; intro v31)
  refine wp_loop_rounds 5 ?_
  rw [rounds_succ]
  go_wp2_with fail
  rw [rounds_succ]
  go_wp2_with fail
  rw [rounds_succ]
  go_wp2_with fail
  refine wp_loop_rounds 1 ?_
  rw [rounds_succ]
  go_wp2_with fail
  go_quiet (fail)
  change Exit.then _ _ _ _ ((w.drewN nq).alloc _)
  rw [show w.heap.size = (w.drewN nq).heap.size from rfl]
  have q3 : (w.drewN nq).cell? ⟨sg, p + 3, none⟩ = some (.int .u8 61) := s3
  have q0 : (w.drewN nq).cell? ⟨g, o, none⟩ = some x0 := d0
  have qf : (w.drewN nq).frozen? ⟨g, o, none⟩ = false := f0
  have qs : (w.drewN nq).cell? ⟨b, 321, none⟩ = some (.bool false) := hst
  have qb : b < (w.drewN nq).heap.size := hbl
  have qg : g < (w.drewN nq).heap.size := hgl
  have qr : sg < (w.drewN nq).heap.size := hsl
  have HP := hidF (show Puts w (w.drewN nq) g (o + 1) [] from ⟨fun L h _ => by rw [splice_nil]; exact h, ⟨rfl, rfl, rfl, Nat.le_refl _, fun _ _ _ => rfl⟩⟩)
  generalize w.drewN nq = w2 at q3 q0 qf qs qb qg qr HP ⊢
  clear s0 s1 s2 s3 d0 f0 hst hbl hsl e0 e1 e61 hpad
  go_wp2_with fail
  refine wp_loop_rounds 1 ?_
  rw [rounds_succ]
  go_wp2_with fail
  go_ret3
  refine ⟨rfl, ?_⟩
  exact ((HP.out).front _ _ (byte0 X)).alloc hgl _
end Go.Proofs.YtbpoecfbcmdeeaaDoor
