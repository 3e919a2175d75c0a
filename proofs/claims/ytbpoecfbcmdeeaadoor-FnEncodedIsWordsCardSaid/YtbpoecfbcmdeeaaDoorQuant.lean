/- base64's decodeQuantum at the last four digits: the walk. -/
import Derived.Test.YtbpoecfbcmdeeaaDoorPut
import Derived.LoopN
namespace Go.Proofs.YtbpoecfbcmdeeaaDoor
open Go.RowKit

theorem run_loadVar_at {P : Program} (w : World) (g o : Nat) (ty : TypeId) (cs : List Value) (d : TypeDesc) (hg : ∀ j v, cs[j]? = some v → w.cell? ⟨g, o + j, none⟩ = some v)
    (hu : P.underlying ty = some d) (hd : (match d with | .struct _ | .array _ _ => true | _ => false) = true) (hi : (P.info? ty).map (·.size) = some cs.length) :
    (loadVar ty ⟨g, o, none⟩).run P w = .ok (.agg cs.toArray) w := by
  have hl : (loadCells ⟨g, o, none⟩ cs.length).run P w = .ok cs.toArray w :=
    run_loadCells_list (P := P) w ⟨g, o, none⟩ cs (fun j v hv => by
      have hadd : (⟨g, o, none⟩ : Addr).add j = ⟨g, o + j, none⟩ := by unfold Addr.add; split <;> simp_all
      rw [hadd]; exact hg j v hv)
  cases hq : P.info? ty with
  | none => simp [hq] at hi
  | some i =>
    have hs : i.size = cs.length := by simpa [hq] using hi
    have hagg : (isAgg ty).run P w = .ok true w := by
      unfold isAgg
      rw [Sem.run_bind, run_underlying hu w]
      cases d <;> simp_all
    simp [loadVar, Sem.run_bind, hagg, sizeOf, typeInfo, hq, hs, hl]

theorem wpList_load_at {P : Program} {ops : Array Oper} {rest : List Oper} {o : Oper} {a : Act} {w : World} {Q : Exit → Act → World → Prop} (hgd : o.guard = none) (ty : TypeId) (x : Operand) (ho : o.op = .load ty x)
    (g off : Nat) (hx : a.eval x = .pointer (some ⟨g, off, none⟩)) (cs : List Value) (d : TypeDesc) (hg : ∀ j v, cs[j]? = some v → w.cell? ⟨g, off + j, none⟩ = some v)
    (hu : P.underlying ty = some d) (hd : (match d with | .struct _ | .array _ _ => true | _ => false) = true) (hi : (P.info? ty).map (·.size) = some cs.length)
    (h : ∀ v, wpList P ops Q rest (a.put o.dst v) w) : wpList P ops Q (o :: rest) a w :=
  wpList_plain hgd fun _ hK => by
    unfold Oper.wp execOp
    simp only [ho, hx, Instr.loadAt, Instr.sureAddr, Sem.run_bind, Sem.run_pure, Result.andThen_ok, run_loadVar_at w g off ty cs d hg hu hd hi]
    exact hK _ _ (h _)

theorem encAt_dmap {w : World} {b : Nat} (h : EncAt w b) : ∀ j v, (dmapL 64)[j]? = some v → w.cell? ⟨b, 64 + j, none⟩ = some v := by
  intro j v hj
  have hj1 : j < (dmapL 64).length := (List.getElem?_eq_some_iff.1 hj).1
  rw [cell_of_row w _ _ _ _ _ h]
  have h64 : (Lib.strCells digB64).length = 64 := by rfl
  rw [List.getElem?_toArray]
  unfold encL
  rw [List.getElem?_append_right (by omega), h64, Nat.add_sub_cancel_left, List.getElem?_append_left hj1, hj]
theorem dmapLen0 : (Tryd.prog.info? 31).map (·.size) = some 256 := by kernel_rfl
theorem dmapLen : (Tryd.prog.info? 31).map (·.size) = some (dmapL 64).length := by
  have e : (dmapL 64).length = 256 := by simp [dmapL]
  rw [e]
  exact dmapLen0
theorem EncAt.lt {w : World} {b : Nat} (h : EncAt w b) : b < w.heap.size := (Array.getElem?_eq_some_iff.1 h).1
theorem alloc_kept (w : World) (ob : Obj) (b : Nat) (h : b < w.heap.size) : (w.alloc ob).heap[b]? = w.heap[b]? := ((Below.refl w.heap.size w).alloc (Nat.le_refl _) ob).block b h
theorem EncAt.alloc {w : World} {b : Nat} (h : EncAt w b) (ob : Obj) : EncAt (w.alloc ob) b := (alloc_kept w ob b h.lt).trans h

theorem splice_get {α : Type} (L : List α) (o : Nat) (cs : List α) (h : o + cs.length ≤ L.length) (j : Nat) : (splice L o cs)[j]? = if j < o then L[j]? else if j < o + cs.length then cs[j - o]? else L[j]? := by
  unfold splice
  by_cases h1 : j < o
  · rw [if_pos h1, List.getElem?_append_left (by rw [List.length_take]; omega), List.getElem?_take_of_lt h1]
  · rw [if_neg h1, List.getElem?_append_right (by rw [List.length_take]; omega), List.length_take, Nat.min_eq_left (by omega)]
    by_cases h2 : j < o + cs.length
    · rw [if_pos h2, List.getElem?_append_left (by omega)]
    · rw [if_neg h2, List.getElem?_append_right (by omega), List.getElem?_drop]
      congr 1; omega
theorem splice_cons {α : Type} (L : List α) (o : Nat) (x : α) (r : List α) (h : o + (r.length + 1) ≤ L.length) : splice (L.set o x) (o + 1) r = splice L o (x :: r) := by
  apply List.ext_getElem?
  intro j
  rw [splice_get _ _ _ (by simp; omega), splice_get _ _ _ (by simpa using h)]
  by_cases h1 : j < o
  · rw [if_pos (by omega), if_pos h1, List.getElem?_set_ne (by omega)]
  · rw [if_neg h1]
    by_cases h2 : j = o
    · subst h2
      rw [if_pos (by omega), if_pos (by simp), List.getElem?_set_self (by omega)]
      simp
    · rw [if_neg (by omega), List.getElem?_set_ne (by omega)]
      obtain ⟨t, rfl⟩ : ∃ t, j = o + 1 + t := ⟨j - o - 1, by omega⟩
      rw [List.length_cons]
      by_cases h3 : o + 1 + t < o + 1 + r.length
      · rw [if_pos h3, if_pos (by omega), show o + 1 + t - (o + 1) = t by omega, show o + 1 + t - o = t + 1 by omega, List.getElem?_cons_succ]
      · rw [if_neg h3, if_neg (by omega)]
theorem splice_back {α : Type} (L : List α) (o : Nat) (x : α) (r : List α) (h : o + (r.length + 1) ≤ L.length) : (splice L (o + 1) r).set o x = splice L o (x :: r) := by
  apply List.ext_getElem?
  intro j
  rw [splice_get _ _ _ (by simpa using h)]
  by_cases h2 : j = o
  · subst h2
    rw [List.getElem?_set_self (by rw [length_splice _ _ _ (by omega)]; omega), if_neg (by omega), if_pos (by simp)]
    simp
  · rw [List.getElem?_set_ne (by omega), splice_get _ _ _ (by omega)]
    by_cases h1 : j < o
    · rw [if_pos (by omega), if_pos h1]
    · rw [if_neg (by omega), if_neg h1]
      obtain ⟨t, rfl⟩ : ∃ t, j = o + 1 + t := ⟨j - o - 1, by omega⟩
      rw [List.length_cons]
      by_cases h3 : o + 1 + t < o + 1 + r.length
      · rw [if_pos h3, if_pos (by omega), show o + 1 + t - (o + 1) = t by omega, show o + 1 + t - o = t + 1 by omega, List.getElem?_cons_succ]
      · rw [if_neg h3, if_neg (by omega)]
theorem splice_nil {α : Type} (L : List α) (o : Nat) : splice L o [] = L := by simp [splice]

/-- Bytes have been put into block g from place o on; new blocks may lie behind. -/
def Puts (w w' : World) (g o : Nat) (bs : List UInt8) : Prop :=
  (∀ L, Row w g L → o + bs.length ≤ L.length → Row w' g (splice L o bs)) ∧ w.grownBy w' (some g)

theorem grown_setAt (w : World) (b o : Nat) (v : Value) : w.grownBy (w.setCell ⟨b, o, none⟩ v) (some b) :=
  ⟨rfl, rfl, rfl, by simp [World.setCell], fun k _ hk => Below.heap_setCell _ _ _ _ (fun e => hk (by simp [e]))⟩
theorem Puts.nil (w : World) (g o : Nat) : Puts w w g o [] := ⟨fun L h _ => by rw [splice_nil]; exact h, grown_refl _ _⟩
theorem Puts.front {w w' : World} {g o : Nat} {r : List UInt8} (h : Puts w w' g (o + 1) r) (x : UInt8) (X : Int) (hX : X = (x.toNat : Int)) : Puts w (w'.setCell ⟨g, o, none⟩ (.int .u8 X)) g o (x :: r) := by
  refine ⟨fun L hL hl => ?_, grown_trans h.2 (grown_setAt _ _ _ _)⟩
  have hl2 : o + (r.length + 1) ≤ L.length := hl
  have h1 := (h.1 L hL (by omega)).set o x
  rw [splice_back _ _ _ _ hl2] at h1
  rw [hX]; exact h1
theorem Puts.alloc {w w' : World} {g o : Nat} {bs : List UInt8} (h : Puts w w' g o bs) (hg : g < w.heap.size) (ob : Obj) : Puts w (w'.alloc ob) g o bs :=
  ⟨fun L hL hl => (h.1 L hL hl).same (alloc_kept w' ob g (Nat.lt_of_lt_of_le hg h.2.size)), grown_then (B := w'.heap.size) h.2 ((Below.refl _ _).alloc (Nat.le_refl _) _) h.2.size⟩
theorem Puts.cells {g : Nat} : ∀ (bs : List UInt8) (o : Nat) (w : World), Puts w (w.setCells g o (Lib.byteCells bs)) g o bs
  | [], o, w => Puts.nil w g o
  | x :: r, o, w => by
    have h := Puts.cells (g := g) r (o + 1) (w.setCell ⟨g, o, none⟩ (.int .u8 (x.toNat : Int)))
    refine ⟨fun L hL hl => ?_, grown_trans (grown_setAt _ _ _ _) h.2⟩
    have hl2 : o + (r.length + 1) ≤ L.length := hl
    rw [← splice_cons _ _ _ _ hl2]
    exact h.1 _ (hL.set o x) (by rw [List.length_set]; omega)

theorem quant_val (a b c d : Nat) (ha : a < 64) (hb : b < 64) (hc : c < 64) (hd : d < 64) :
    bits BinOp.or IntKind.u64 (bits BinOp.or IntKind.u64 (bits BinOp.or IntKind.u64 ((a : Int) * 262144) ((b : Int) * 4096)) ((c : Int) * 64)) (d : Int) = ((num4 a b c d : Nat) : Int) := by
  have e1 := or_u64 a 18 (b * 4096) ((a : Int) * 262144) (by omega) (by omega) (by omega)
  have e2 := or_u64 (a * 64 + b) 12 (c * 64) (((a * 2 ^ 18 + b * 4096 : Nat) : Int)) (by omega) (by omega) (by omega)
  have e3 := or_u64 (a * 4096 + b * 64 + c) 6 d ((((a * 64 + b) * 2 ^ 12 + c * 64 : Nat) : Int)) (by omega) (by omega) (by omega)
  rw [show ((b * 4096 : Nat) : Int) = (b : Int) * 4096 by omega] at e1
  rw [show ((c * 64 : Nat) : Int) = (c : Int) * 64 by omega] at e2
  rw [e1, e2, e3]
  unfold num4
  omega
theorem byte0 (X : Nat) : ((X : Int) / 65536) % 256 = ((UInt8.ofNat (X / 65536)).toNat : Int) := by rw [UInt8.toNat_ofNat']; omega
theorem byte1 (X : Nat) : ((X : Int) / 256) % 256 = ((UInt8.ofNat (X / 256 % 256)).toNat : Int) := by rw [UInt8.toNat_ofNat']; omega
theorem byte2 (X : Nat) : (X : Int) % 256 = ((UInt8.ofNat (X % 256)).toNat : Int) := by rw [UInt8.toNat_ofNat']; omega

set_option maxHeartbeats 4000000 in
set_option maxRecDepth 100000 in
theorem quantA (b g o dn dcap sg p scap : Nat) (c0 c1 c2 c3 : UInt8) (a0 a1 a2 a3 : Nat) (x0 x1 x2 : Value) (w : World) (he : EncAt w b) (hgb : g ≠ b)
    (h0 : b64V c0 = some a0) (h1 : b64V c1 = some a1) (h2 : b64V c2 = some a2) (h3 : b64V c3 = some a3) (hp : p ≤ 1000000) (hdn : 3 ≤ dn)
    (s0 : w.cell? ⟨sg, p, none⟩ = some (.int .u8 (c0.toNat : Int))) (s1 : w.cell? ⟨sg, p + 1, none⟩ = some (.int .u8 (c1.toNat : Int))) (s2 : w.cell? ⟨sg, p + 2, none⟩ = some (.int .u8 (c2.toNat : Int))) (s3 : w.cell? ⟨sg, p + 3, none⟩ = some (.int .u8 (c3.toNat : Int)))
    (d0 : w.cell? ⟨g, o, none⟩ = some x0) (d1 : w.cell? ⟨g, o + 1, none⟩ = some x1) (d2 : w.cell? ⟨g, o + 2, none⟩ = some x2)
    (f0 : w.frozen? ⟨g, o, none⟩ = false) (f1 : w.frozen? ⟨g, o + 1, none⟩ = false) (f2 : w.frozen? ⟨g, o + 2, none⟩ = false) :
    Calls Tryd.prog 77 #[.pointer (some ⟨b, 0, none⟩), .slice (some ⟨g, o, none⟩) dn dcap, .slice (some ⟨sg, 0, none⟩) (p + 4) scap, .int .i64 p] w fun e w' => e = .returned (.tuple #[.int .i64 ((p + 4 : Nat) : Int), .int .i64 3, .nilIface]) ∧ Puts w w' g o ((three (num4 a0 a1 a2 a3)).take 3) := by
  have hbl := he.lt
  have hgl := block_lt_of_cell d0
  have hsl := block_lt_of_cell s0
  have m0 : (0 : Int) < (dn : Int) := by omega
  have m1 : (1 : Int) < (dn : Int) := by omega
  have m2 : (2 : Int) < (dn : Int) := by omega
  have l0 := b64V_lt _ _ h0
  have e0 := encAt_some he c0 a0 h0
  have n0 : ((a0 : Int) == 255) = false := beq_eq_false_iff_ne.2 (by omega)
  have r0 := c0.toNat_lt
  have k0 : (c0.toNat : Int) < 256 := by omega
  have l1 := b64V_lt _ _ h1
  have e1 := encAt_some he c1 a1 h1
  have n1 : ((a1 : Int) == 255) = false := beq_eq_false_iff_ne.2 (by omega)
  have r1 := c1.toNat_lt
  have k1 : (c1.toNat : Int) < 256 := by omega
  have l2 := b64V_lt _ _ h2
  have e2 := encAt_some he c2 a2 h2
  have n2 : ((a2 : Int) == 255) = false := beq_eq_false_iff_ne.2 (by omega)
  have r2 := c2.toNat_lt
  have k2 : (c2.toNat : Int) < 256 := by omega
  have l3 := b64V_lt _ _ h3
  have e3 := encAt_some he c3 a3 h3
  have n3 : ((a3 : Int) == 255) = false := beq_eq_false_iff_ne.2 (by omega)
  have r3 := c3.toNat_lt
  have k3 : (c3.toNat : Int) < 256 := by omega
  have t0 : ((p : Int) + 4 == (p : Int)) = false := beq_eq_false_iff_ne.2 (by omega)
  have t1 : ((p : Int) + 4 == (p : Int) + 1) = false := beq_eq_false_iff_ne.2 (by omega)
  have t2 : ((p : Int) + 4 == (p : Int) + 1 + 1) = false := beq_eq_false_iff_ne.2 (by omega)
  have t3 : ((p : Int) + 4 == (p : Int) + 1 + 1 + 1) = false := beq_eq_false_iff_ne.2 (by omega)
  have hv := quant_val a0 a1 a2 a3 l0 l1 l2 l3
  obtain ⟨X, hX⟩ : ∃ X, X = num4 a0 a1 a2 a3 := ⟨_, rfl⟩
  rw [← hX] at hv ⊢
  have HX := hidF hX
  clear hX
  have hbg : ¬ b = g := fun e => hgb e.symm
  have hst := encAt_strict he
  have HE := hidF he
  clear he h0 h1 h2 h3
  go_enter Tryd.func77, Tryd.ntmps77
  go_wp2_with (refine wpList_load_at rfl 31 (.tmp 19) rfl b 64 rfl (dmapL 64) _ (encAt_dmap (HE.out.alloc _)) Tryd.underlying31 rfl dmapLen ?_; intro v31)
  refine wp_loop_rounds 5 ?_
  rw [rounds_succ]
  go_wp2_with fail
  rw [rounds_succ]
  go_wp2_with fail
  rw [rounds_succ]
  go_wp2_with fail
  rw [rounds_succ]
  go_wp2_with fail
  rw [rounds_succ]
  go_wp2_with fail
  go_ret3
  refine ⟨rfl, ?_⟩
  exact ((((Puts.nil w g _).front _ _ (byte2 X)).front _ _ (byte1 X)).front _ _ (byte0 X)).alloc hgl _
end Go.Proofs.YtbpoecfbcmdeeaaDoor
