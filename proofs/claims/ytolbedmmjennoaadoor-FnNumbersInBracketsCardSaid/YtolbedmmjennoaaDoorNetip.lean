/- netip.ParseAddr over four numbers, Zone, Is4; isIP4: the walks. -/
import Derived.Test.YtolbedmmjennoaaDoorIPFields
import Derived.Deep.RegionHeld3
import Derived.Laws.ResultCell
import Derived.LaidEqlPtr
namespace Go.Proofs.YtolbedmmjennoaaDoor
open Go.RowKit

/-- A struct or an array is read where its cells are known one by one. -/
theorem run_loadVar_cells {P : Program} (w : World) (p : Addr) (ty : TypeId) (cs : List Value) (d : TypeDesc) (hc : ∀ j v, cs[j]? = some v → w.cell? (p.add j) = some v)
    (hu : P.underlying ty = some d) (hd : (match d with | .struct _ | .array _ _ => true | _ => false) = true) (hi : (P.info? ty).map (·.size) = some cs.length) :
    (loadVar ty p).run P w = .ok (.agg cs.toArray) w := by
  have hl : (loadCells p cs.length).run P w = .ok cs.toArray w := run_loadCells_list (P := P) w p cs hc
  cases hq : P.info? ty with
  | none => simp [hq] at hi
  | some i =>
    have hs : i.size = cs.length := by simpa [hq] using hi
    have hagg : (isAgg ty).run P w = .ok true w := by
      unfold isAgg
      rw [Sem.run_bind, run_underlying hu w]
      cases d <;> simp_all
    simp [loadVar, Sem.run_bind, hagg, sizeOf, typeInfo, hq, hs, hl]
theorem wp_load_cells {P : Program} {o : Oper} {a : Act} {w : World} {K : Act → World → Prop} {Q : Exit → Act → World → Prop} (ty : TypeId) (x : Operand) (ho : o.op = .load ty x)
    (p : Addr) (hx : a.eval x = .pointer (some p)) (cs : List Value) (d : TypeDesc) (hc : ∀ j v, cs[j]? = some v → w.cell? (p.add j) = some v)
    (hu : P.underlying ty = some d) (hd : (match d with | .struct _ | .array _ _ => true | _ => false) = true) (hi : (P.info? ty).map (·.size) = some cs.length)
    (h : K (a.put o.dst (.agg cs.toArray)) w) : o.wp P a w K Q := by
  unfold Oper.wp execOp
  simp only [ho, hx, Instr.loadAt, Instr.sureAddr, Sem.run_bind, Sem.run_pure, Result.andThen_ok, run_loadVar_cells w p ty cs d hc hu hd hi]
  exact h
theorem wpList_load_cells {P : Program} {ops : Array Oper} {rest : List Oper} {o : Oper} {a : Act} {w : World} {Q : Exit → Act → World → Prop} (hgd : o.guard = none) (ty : TypeId) (x : Operand) (ho : o.op = .load ty x)
    (p : Addr) (hx : a.eval x = .pointer (some p)) (cs : List Value) (d : TypeDesc) (hc : ∀ j v, cs[j]? = some v → w.cell? (p.add j) = some v)
    (hu : P.underlying ty = some d) (hd : (match d with | .struct _ | .array _ _ => true | _ => false) = true) (hi : (P.info? ty).map (·.size) = some cs.length)
    (h : wpList P ops Q rest (a.put o.dst (.agg cs.toArray)) w) : wpList P ops Q (o :: rest) a w :=
  wpList_plain hgd fun _ hK => wp_load_cells ty x ho p hx cs d hc hu hd hi (hK _ _ h)

/-- netip's variables z0 and z4 as they are laid: none, and a pointer to a detail without a zone. -/
structure ZTabs (p : Addr) (w : World) : Prop where
  z4 : w.cell? ⟨4, 0, none⟩ = some (.pointer (some p))
  z0 : w.cell? ⟨3, 0, none⟩ = some (.pointer none)
  v6 : w.cell? p = some (.bool false)
  zn : w.cell? ⟨p.block, p.off + 1, none⟩ = some (.string ⟨#[]⟩)

theorem cell_lt {w : World} {p : Addr} {v : Value} (h : w.cell? p = some v) : p.block < w.heap.size := by
  cases hq : w.heap[p.block]? with
  | none => simp [World.cell?, hq] at h
  | some o => exact (Array.getElem?_eq_some_iff.1 hq).1
theorem cell_spot {w : World} {p : Addr} {v : Value} (h : w.cell? p = some v) : p.spot = none := by
  cases hq : p.spot with
  | none => rfl
  | some x =>
    unfold World.cell? at h
    split at h
    · rw [hq] at h; simp at h
    · cases h
theorem ZTabs.below {p : Addr} {w w' : World} {B : Nat} (h : ZTabs p w) (hb : Below B w w') (hB : w.heap.size ≤ B) : ZTabs p w' :=
  ⟨(hb.cell (Nat.lt_of_lt_of_le (cell_lt h.z4) hB)).trans h.z4, (hb.cell (Nat.lt_of_lt_of_le (cell_lt h.z0) hB)).trans h.z0, (hb.cell (Nat.lt_of_lt_of_le (cell_lt h.v6) hB)).trans h.v6, (hb.cell (Nat.lt_of_lt_of_le (cell_lt h.zn) hB)).trans h.zn⟩

theorem add_zero (p : Addr) : p.add 0 = p := by
  unfold Addr.add
  cases p with | mk b o v => cases v <;> simp

theorem aggAddr : (Tryd.prog.info? 94).map (·.size) = some 3 := by kernel_rfl
theorem aggFour : (Tryd.prog.info? 28).map (·.size) = some 4 := by kernel_rfl
theorem aggDetail : (Tryd.prog.info? 112).map (·.size) = some 2 := by kernel_rfl
theorem aggHandle : (Tryd.prog.info? 92).map (·.size) = some 1 := by kernel_rfl

set_option maxHeartbeats 400000 in
set_option maxRecDepth 100000 in
theorem addrFrom4_any (a b c d : Int) (p : Addr) (w : World) (hZ : ZTabs p w) :
    Calls Tryd.prog 91 #[.agg #[.int .u8 a, .int .u8 b, .int .u8 c, .int .u8 d]] w fun e w' => ∃ x : Int, e = .returned (.agg #[.int .u64 0, .int .u64 x, .pointer (some p)]) ∧ Below w.heap.size w w' := by
  have z4 := hZ.z4
  have hlt := cell_lt z4
  go_enter Tryd.func91, Tryd.ntmps91
  go_wp2_with (with_reducible refine wpList_load_cells (o := ⟨some 23, _, _, _, _, _⟩) rfl _ _ rfl ⟨4, 0, none⟩ rfl [.pointer (some p)] _ ?c1 Tryd.underlying92 rfl aggHandle ?_)
  obtain ⟨x, hx⟩ : ∃ x : Int, x = bits BinOp.or IntKind.u64
                (bits BinOp.or IntKind.u64
                  (bits BinOp.or IntKind.u64
                    (bits BinOp.or IntKind.u64 281470681743360 (IntKind.u64.wrap (IntKind.u64.wrap a * 16777216)))
                    (IntKind.u64.wrap (IntKind.u64.wrap b * 65536)))
                  (IntKind.u64.wrap (IntKind.u64.wrap c * 256)))
                (IntKind.u64.wrap d) := ⟨_, rfl⟩
  rw [← hx]
  refine bodyPost_ret (v := .agg #[.int .u64 0, .int .u64 x, .pointer (some p)]) ?_ rfl ⟨⟨x, rfl⟩, ((Below.refl w.heap.size w).alloc (Nat.le_refl _) _).alloc (by simp) _⟩
  have hb := heap_alloc_new (w.alloc (.cells #[.int .u8 a, .int .u8 b, .int .u8 c, .int .u8 d] 28)) (.cells #[.int .u64 0, .int .u64 x, .pointer (some p)] 94)
  have hs : (w.alloc (.cells #[.int .u8 a, .int .u8 b, .int .u8 c, .int .u8 d] 28)).heap.size = w.heap.size + 1 := by simp
  rw [hs] at hb
  exact results_cell_row (p := 2) (by kernel_rfl) _ _ (w.heap.size + 1) _ _ (0, 0) _ rfl hb Tryd.underlying94 rfl aggAddr

/-- An address of netip in a block. -/
def NAt (b : Nat) (x y : Int) (q : Option Addr) (w : World) : Prop := w.heap[b]? = some (.cells #[.int .u64 x, .int .u64 y, .pointer q] 94 (0, 0))
theorem NAt.cell0 {b : Nat} {x y : Int} {q : Option Addr} {w : World} (h : NAt b x y q w) : w.cell? ⟨b, 0, none⟩ = some (.int .u64 x) := by
  unfold NAt at h; simp [World.cell?, h]
theorem NAt.cell1 {b : Nat} {x y : Int} {q : Option Addr} {w : World} (h : NAt b x y q w) : w.cell? ⟨b, 1, none⟩ = some (.int .u64 y) := by
  unfold NAt at h; simp [World.cell?, h]
theorem NAt.cell2 {b : Nat} {x y : Int} {q : Option Addr} {w : World} (h : NAt b x y q w) : w.cell? ⟨b, 2, none⟩ = some (.pointer q) := by
  unfold NAt at h; simp [World.cell?, h]
theorem NAt.free {b : Nat} {x y : Int} {q : Option Addr} {w : World} (h : NAt b x y q w) (k : Nat) : w.frozen? ⟨b, k, none⟩ = false := by
  unfold NAt at h; simp [World.frozen?, h]
theorem NAt.lt {b : Nat} {x y : Int} {q : Option Addr} {w : World} (h : NAt b x y q w) : b < w.heap.size := (Array.getElem?_eq_some_iff.1 h).1
theorem NAt.below {B b : Nat} {x y : Int} {q : Option Addr} {w w' : World} (h : NAt b x y q w) (k : Below B w w') (hb : b < B) : NAt b x y q w' := (k.block b hb).trans h
theorem NAt.put {b : Nat} {x y : Int} {q : Option Addr} {w : World} (h : NAt b x y q w) (x' y' : Int) (q' : Option Addr) : NAt b x' y' q' (((w.setCell ⟨b, 0, none⟩ (.int .u64 x')).setCell ⟨b, 1, none⟩ (.int .u64 y')).setCell ⟨b, 2, none⟩ (.pointer q')) := by
  unfold NAt at h ⊢; simp [World.setCell, Array.getElem?_modify, h]
theorem NAt.made' (w : World) (x y : Int) (q : Option Addr) : NAt w.heap.size x y q (w.alloc (.cells #[.int .u64 x, .int .u64 y, .pointer q] 94)) := heap_alloc_new w _
theorem NAt.made (w : World) : NAt w.heap.size 0 0 none (w.alloc (.cells #[.int .u64 0, .int .u64 0, .pointer none] 94)) := heap_alloc_new w _

theorem nat_results {fn : Func} {p u : Tmp} (hf : fn.results = #[.cell p 94, .tmp u]) (tmps : Array Value) (b : Nat) (x y : Int) (q : Option Addr) (v : Value) (w : World) (h : NAt b x y q w) (h6 : tmps.getD p undef = .pointer (some ⟨b, 0, none⟩)) (h7 : tmps.getD u undef = v) :
    (results fn tmps).run Tryd.prog w = .ok (.tuple #[.agg #[.int .u64 x, .int .u64 y, .pointer q], v]) w := by
  rw [results_cell_tmp (p := p) (u := u) (ty := 94) hf, h6, h7]
  simp only [asAddr, Sem.run_pure, Result.andThen]
  rw [run_loadVar_row w b 94 94 #[.int .u64 x, .int .u64 y, .pointer q] (0, 0) _ h Tryd.underlying94 rfl aggAddr]

set_option maxHeartbeats 400000 in
set_option maxRecDepth 100000 in
theorem parseIPv4_any (t : ByteArray) (p : Addr) (w : World) (hZ : ZTabs p w) (ht : t.size ≤ 100) (hsc : scan t.data.toList 0 0 0 = true) :
    Calls Tryd.prog 80 #[.string t] w fun e w' => ∃ x : Int, e = .returned (.tuple #[.agg #[.int .u64 0, .int .u64 x, .pointer (some p)], .nilIface]) ∧ Below w.heap.size w w' := by
  have Hs := hidF hsc
  clear hsc
  go_enter Tryd.func80, Tryd.ntmps80
  go_wp2_with fail
  have hR0 := NAt.made w
  have hF0 : FAt (w.heap.size + 1) ((w.alloc (.cells #[.int .u64 0, .int .u64 0, .pointer none] 94)).alloc (.cells #[.int .u8 0, .int .u8 0, .int .u8 0, .int .u8 0] 28)) := by
    have := heap_alloc_new (w.alloc (.cells #[.int .u64 0, .int .u64 0, .pointer none] 94)) (.cells #[.int .u8 0, .int .u8 0, .int .u8 0, .int .u8 0] 28)
    rw [show (w.alloc (.cells #[.int .u64 0, .int .u64 0, .pointer none] 94)).heap.size = w.heap.size + 1 by simp] at this
    exact ⟨0, 0, 0, 0, this⟩
  have hb0 : Below w.heap.size w ((w.alloc (.cells #[.int .u64 0, .int .u64 0, .pointer none] 94)).alloc (.cells #[.int .u8 0, .int .u8 0, .int .u8 0, .int .u8 0] 28)) :=
    ((Below.refl w.heap.size w).alloc (Nat.le_refl _) _).alloc (by simp) _
  have hR1 : NAt w.heap.size 0 0 none ((w.alloc (.cells #[.int .u64 0, .int .u64 0, .pointer none] 94)).alloc (.cells #[.int .u8 0, .int .u8 0, .int .u8 0, .int .u8 0] 28)) :=
    hR0.below (B := w.heap.size + 1) ((Below.refl _ _).alloc (by simp) _) (by omega)
  refine (fields_any t (w.heap.size + 1) _ ht hF0 Hs.out).mono ?_
  rintro e w1 ⟨rfl, hF, hg⟩
  have hb1 : Below w.heap.size w w1 := hb0.trans (below_grown hg (by omega) (by simp; omega))
  have hR : NAt w.heap.size 0 0 none w1 := (hg.block w.heap.size (by simp; omega) (by intro e; injection e; omega)).trans hR1
  have hZ1 := hZ.below hb1 (Nat.le_refl _)
  obtain ⟨a, b, c, d, hf⟩ := hF
  have Hf := hidF hf
  have HR := hidF hR
  clear hb0 hF0 hR0 hR1 hg hf hR hZ
  have c0 : w1.cell? ⟨w.heap.size + 1, 0, none⟩ = some (.int .u8 a) := by have := Hf.out; simp [World.cell?, this]
  have c1 : w1.cell? ⟨w.heap.size + 1, 1, none⟩ = some (.int .u8 b) := by have := Hf.out; simp [World.cell?, this]
  have c2 : w1.cell? ⟨w.heap.size + 1, 2, none⟩ = some (.int .u8 c) := by have := Hf.out; simp [World.cell?, this]
  have c3 : w1.cell? ⟨w.heap.size + 1, 3, none⟩ = some (.int .u8 d) := by have := Hf.out; simp [World.cell?, this]
  go_wp2_with fail
  refine (addrFrom4_any a b c d p w1 hZ1).mono ?_
  rintro e w2 ⟨x, rfl, hb2⟩
  have hR2 := HR.out.below hb2 HR.out.lt
  have r0 := hR2.cell0
  have r1 := hR2.cell1
  have r2 := hR2.cell2
  have f0 := hR2.free 0
  have f1 := hR2.free 1
  have f2 := hR2.free 2
  have hfin := hR2.put 0 x (some p)
  have hb3 := hb1.trans (hb2.mono hb1.size)
  have hbf := ((hb3.setCell (p := ⟨w.heap.size, 0, none⟩) (Nat.le_refl _) (.int .u64 0)).setCell (p := ⟨w.heap.size, 1, none⟩) (Nat.le_refl _) (.int .u64 x)).setCell (p := ⟨w.heap.size, 2, none⟩) (Nat.le_refl _) (.pointer (some p))
  clear c0 c1 c2 c3
  go_wp2_with fail
  exact bodyPost_ret (nat_results (p := 2) (u := 3) (by kernel_rfl) _ w.heap.size _ _ _ _ _ hfin rfl rfl) rfl ⟨x, rfl, hbf⟩

set_option maxHeartbeats 400000 in
set_option maxRecDepth 100000 in
theorem parseAddr_any (t : ByteArray) (p : Addr) (w : World) (hZ : ZTabs p w) (ht : t.size ≤ 100) (hc : ∀ c ∈ t.data.toList, numC c) (hsc : scan t.data.toList 0 0 0 = true) :
    Calls Tryd.prog 61 #[.string t] w fun e w' => ∃ x : Int, e = .returned (.tuple #[.agg #[.int .u64 0, .int .u64 x, .pointer (some p)], .nilIface]) ∧ Below w.heap.size w w' := by
  have Hs := hidF hsc
  have Hc := hidF hc
  have hpt : ∃ k : Nat, t.data.toList[k]? = some 46 := by
    apply Classical.byContradiction
    intro hn
    have hn' : ∀ c ∈ t.data.toList, c ≠ 46 := by
      intro c hc e
      obtain ⟨k, hk⟩ := List.mem_iff_getElem?.1 hc
      exact hn ⟨k, by rw [hk, e]⟩
    have hd : ∀ (l : List UInt8) (val dig : Nat), (∀ c ∈ l, c ≠ 46) → scan l val dig 0 = false := by
      intro l
      induction l with
      | nil => intro _ _ _; rfl
      | cons c r ih =>
        intro val dig h
        by_cases hg : digB c = true
        · rw [scan, if_pos hg, ih _ _ (fun x hx => h x (by simp [hx]))]
          simp
        · rw [scan, if_neg hg]
          have : c ≠ 46 := h c (by simp)
          simp [this]
    rw [hd _ _ _ hn'] at hsc
    cases hsc
  have Hp := hidF hpt
  clear hsc hc hpt
  go_enter Tryd.func61, Tryd.ntmps61
  go_wp2_with fail
  have hR0 := NAt.made w
  have hb0 : Below w.heap.size w (w.alloc (.cells #[.int .u64 0, .int .u64 0, .pointer none] 94)) := (Below.refl w.heap.size w).alloc (Nat.le_refl _) _
  have hZ0 := hZ.below hb0 (Nat.le_refl _)
  have HB := hidF hb0
  have HR := hidF hR0
  have HZ := hidF hZ0
  clear hb0 hR0 hZ0 hZ
  go_loop [4] (fun v4 => ∃ k : Nat, k ≤ t.size ∧ v4 = .int .i64 k ∧ Hid (∃ j : Nat, k ≤ j ∧ t.data.toList[j]? = some 46)) (fun v4 => t.size - (intOf v4).toNat)
  case atStart => exact ⟨0, Nat.zero_le _, rfl, hidF (by obtain ⟨k, hk⟩ := Hp.out; exact ⟨k, Nat.zero_le _, hk⟩)⟩
  case round =>
    obtain ⟨k, hk, rfl, hj⟩ := hrel
    obtain ⟨j, hkj, hj2⟩ := hj.out
    have hjl : j < t.size := by
      rw [List.getElem?_eq_some_iff] at hj2
      obtain ⟨h, _⟩ := hj2
      rw [size_of_list]; exact h
    have hlt : k < t.size := by omega
    have hz : (k : Int) < (t.size : Int) := by omega
    by_cases h46 : t[k] = 46
    · have e0 : t[k].toNat = 46 := by rw [h46]; rfl
      have g2 : ((t[k].toNat : Int) == 46) = true := beq_iff_eq.2 (by omega)
      have hcall := hidF (parseIPv4_any t p _ HZ.out ht Hs.out)
      clear e0 h46 hj2 hj
      go_wp2_with fail
      refine hcall.out.mono ?_
      rintro e w2 ⟨x, rfl, hb2⟩
      have hR2 := HR.out.below hb2 HR.out.lt
      have r0 := hR2.cell0
      have r1 := hR2.cell1
      have r2 := hR2.cell2
      have f0 := hR2.free 0
      have f1 := hR2.free 1
      have f2 := hR2.free 2
      have hfin := hR2.put 0 x (some p)
      have hb3 := HB.out.trans (hb2.mono HB.out.size)
      have hbf := ((hb3.setCell (p := ⟨w.heap.size, 0, none⟩) (Nat.le_refl _) (.int .u64 0)).setCell (p := ⟨w.heap.size, 1, none⟩) (Nat.le_refl _) (.int .u64 x)).setCell (p := ⟨w.heap.size, 2, none⟩) (Nat.le_refl _) (.pointer (some p))
      clear hcall
      go_wp2_with fail
      exact bodyPost_ret (nat_results (p := 2) (u := 3) (by kernel_rfl) _ w.heap.size _ _ _ _ _ hfin rfl rfl) rfl ⟨x, rfl, hbf⟩
    · have hne : k ≠ j := by
        rintro rfl
        rw [get_of t k hlt] at hj2
        exact h46 (Option.some.inj hj2)
      have hn := Hc.out t[k] (List.mem_of_getElem? (get_of t k hlt))
      have hd : 48 ≤ t[k].toNat ∧ t[k].toNat ≤ 57 := by
        rcases hn with h | h
        · exact h
        · exact absurd h h46
      have g1 : ((t[k].toNat : Int) == 46) = false := beq_eq_false_iff_ne.2 (by omega)
      have g2 : ((t[k].toNat : Int) == 58) = false := beq_eq_false_iff_ne.2 (by omega)
      have g3 : ((t[k].toNat : Int) == 37) = false := beq_eq_false_iff_ne.2 (by omega)
      have hnx := hidF (show ∃ j : Nat, k + 1 ≤ j ∧ t.data.toList[j]? = some 46 from ⟨j, by omega, hj2⟩)
      clear hn h46 hj2 hj hd
      go_wp2_with fail
      go_round
      case rel => exact ⟨k + 1, hlt, by go_num, hnx⟩
      case measure => simp [intOf]; omega

theorem ptr_no (p : Addr) (d : Nat) (w : World) : (Op.equalIn (d + 1) 90 (.pointer (some p)) (.pointer none)).run Tryd.prog w = .ok false w := by
  simp [Op.equalIn, run_underlying Tryd.underlying90]
theorem ptr_same (p : Addr) (d : Nat) (w : World) : (Op.equalIn (d + 1) 90 (.pointer (some p)) (.pointer (some p))).run Tryd.prog w = .ok true w := by
  obtain ⟨j, hj, _⟩ : ∃ j, Tryd.prog.info? 112 = some j ∧ True := by
    cases hq : Tryd.prog.info? 112 with
    | some j => exact ⟨j, rfl, trivial⟩
    | none => exact absurd (show (Tryd.prog.info? 112).isSome = true by kernel_rfl) (by rw [hq]; simp)
  simp [Op.equalIn, run_underlying Tryd.underlying90, sizeOf, typeInfo, hj, run_sameAddr_same]

theorem value_any (p : Addr) (w : World) (hZ : ZTabs p w) :
    Calls Tryd.prog 82 #[.agg #[.pointer (some p)]] w fun e w' => e = .returned (.agg #[.bool false, .string ⟨#[]⟩]) ∧ Below w.heap.size w w' := by
  obtain ⟨pb, po, pv⟩ := p
  obtain ⟨_, _, vz, zn⟩ := hZ
  obtain rfl : pv = none := cell_spot vz
  replace zn : w.cell? ⟨pb, po + 1, none⟩ = some (.string ⟨#[]⟩) := zn
  have lp : pb < w.heap.size := cell_lt vz
  go_enter Tryd.func82, Tryd.ntmps82
  go_wp2_with fail
  refine bodyPost_ret (v := .agg #[.bool false, .string ⟨#[]⟩]) ?_ rfl ⟨rfl, ((Below.refl w.heap.size w).alloc (Nat.le_refl _) _).alloc (by simp) _⟩
  have hb := heap_alloc_new (w.alloc (.cells #[.pointer (some ⟨pb, po, none⟩)] 92)) (.cells #[.bool false, .string ⟨#[]⟩] 112)
  rw [show (w.alloc (.cells #[.pointer (some ⟨pb, po, none⟩)] 92)).heap.size = w.heap.size + 1 by simp] at hb
  exact results_cell_row (p := 2) (by kernel_rfl) _ _ (w.heap.size + 1) _ _ (0, 0) _ rfl hb Tryd.underlying112 rfl aggDetail

set_option maxHeartbeats 400000 in
set_option maxRecDepth 100000 in
theorem zone_any (x y : Int) (p : Addr) (w : World) (hZ : ZTabs p w) :
    Calls Tryd.prog 62 #[.agg #[.int .u64 x, .int .u64 y, .pointer (some p)]] w fun e w' => e = .returned (.string ⟨#[]⟩) ∧ Below w.heap.size w w' := by
  have z0 := hZ.z0
  have l0 := cell_lt z0
  have q1 : ∀ w, (Op.equalIn 9999 90 (.pointer (some p)) (.pointer none)).run Tryd.prog w = .ok false w := fun w => ptr_no p 9998 w
  have hb0 : Below w.heap.size w (w.alloc (.cells #[.int .u64 x, .int .u64 y, .pointer (some p)] 94)) := (Below.refl w.heap.size w).alloc (Nat.le_refl _) _
  have hcall := hidF (value_any p _ (hZ.below hb0 (Nat.le_refl _)))
  go_enter Tryd.func62, Tryd.ntmps62
  go_wp2_with fail
  refine hcall.out.mono ?_
  rintro e w2 ⟨rfl, hb2⟩
  clear hcall
  have hfl : ∀ w, (Instr.field 112 (.agg #[.bool false, .string ⟨#[]⟩]) 1).run Tryd.prog w = .ok (.string ⟨#[]⟩) w := fun w => by kernel_rfl
  go_wp2_with fail
  go_ret
  exact ⟨rfl, hb0.trans (hb2.mono hb0.size)⟩

set_option maxHeartbeats 400000 in
set_option maxRecDepth 100000 in
theorem is4_any (x y : Int) (p : Addr) (w : World) (hZ : ZTabs p w) :
    Calls Tryd.prog 63 #[.agg #[.int .u64 x, .int .u64 y, .pointer (some p)]] w fun e w' => e = .returned (.bool true) ∧ Below w.heap.size w w' := by
  have z4 := hZ.z4
  have l4 := cell_lt z4
  have q1 : ∀ w, (Op.equalIn 9999 90 (.pointer (some p)) (.pointer (some p))).run Tryd.prog w = .ok true w := fun w => ptr_same p 9998 w
  have hb0 : Below w.heap.size w (w.alloc (.cells #[.int .u64 x, .int .u64 y, .pointer (some p)] 94)) := (Below.refl w.heap.size w).alloc (Nat.le_refl _) _
  go_enter Tryd.func63, Tryd.ntmps63
  go_wp2_with fail
  go_ret
  exact ⟨rfl, hb0⟩

theorem isIP4_any (t : ByteArray) (p : Addr) (w : World) (hZ : ZTabs p w) (ht : t.size ≤ 100) (hc : ∀ c ∈ t.data.toList, numC c) (hsc : scan t.data.toList 0 0 0 = true) :
    Calls Tryd.prog 45 #[.string t] w fun e w' => e = .returned (.bool true) ∧ Below w.heap.size w w' := by
  have hcall := hidF (parseAddr_any t p w hZ ht hc hsc)
  clear hc hsc
  go_enter Tryd.func45, Tryd.ntmps45
  go_wp2_with fail
  refine hcall.out.mono ?_
  rintro e w1 ⟨x, rfl, hb1⟩
  go_wp2_with fail
  have hZ1 := hZ.below hb1 (Nat.le_refl _)
  have hR := NAt.made' w1 0 x (some p)
  have hba := hb1.alloc hb1.size (.cells #[.int .u64 0, .int .u64 x, .pointer (some p)] 94)
  have hZ2 := hZ.below hba (Nat.le_refl _)
  clear hcall hZ hZ1
  refine (zone_any 0 x p _ hZ2).mono ?_
  rintro e w2 ⟨rfl, hb2⟩
  have hR2 := hR.below hb2 hR.lt
  have r0 := hR2.cell0
  have r1 := hR2.cell1
  have r2 := hR2.cell2
  have hZ3 := hZ2.below hb2 (Nat.le_refl _)
  have hb3 := hba.trans (hb2.mono hba.size)
  clear hZ2 hR hR2 hba hb2
  go_wp2_with fail
  refine (is4_any 0 x p w2 hZ3).mono ?_
  rintro e w3 ⟨rfl, hb4⟩
  clear r0 r1 r2
  go_wp2_with fail
  go_ret
  exact ⟨rfl, hb3.trans (hb4.mono hb3.size)⟩
end Go.Proofs.YtolbedmmjennoaaDoor
