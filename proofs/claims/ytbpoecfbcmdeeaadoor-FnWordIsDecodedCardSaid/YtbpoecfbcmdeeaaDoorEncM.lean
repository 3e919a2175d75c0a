/- base64.NewEncoding at the standard alphabet: the walk. -/
import Derived.Test.YtbpoecfbcmdeeaaDoorUnbText
import Derived.Test.YtbpoecfbcmdeeaaDoorRow
import Derived.Laws.IdiomCopy
import Derived.Laws.CopyOwn
import Derived.Lib.AppendStr
import Derived.Lib.UnsafeStr
import Derived.Deep.OwnRows
import Derived.Deep.QuietTactic
import Derived.BigQuiet
import Derived.RegionTactic
import Derived.StillTailTactics
import Derived.ChangeAlike
namespace Go.Proofs.YtbpoecfbcmdeeaaDoor
open Go.RowKit

/-- copy of a string into a row that is known whole. -/
theorem run_copy_str {P : Program} (w : World) (dT sT ty elem : TypeId) (g o dLen dCap : Nat) (s : ByteArray) (cur : List Value) (t : TypeId)
    (hu : P.underlying dT = some (.slice elem)) (hs : (P.info? elem).map (·.size) = some 1)
    (hg : w.heap[g]? = some (.cells cur.toArray t (0, 0))) (hle : s.size ≤ dLen) (hfit : o + s.size ≤ cur.length) :
    (Builtin.copy_ #[dT, sT] ty #[.slice (some ⟨g, o, none⟩) dLen dCap, .string s]).run P w =
      .ok (goInt s.size) (w.setRow g (cur.take o ++ Lib.strCells s ++ cur.drop (o + s.size)).toArray) := by
  have hl : (Lib.strCells s).length = s.size := by rw [Lib.strCells_eq, Lib.byteCells_length, size_of_list]
  have hst := run_storeCells_at P g o t (Lib.strCells s) 0 cur.toArray w hg (by rw [hl]; simpa using hfit) (by intro v hv; unfold Lib.strCells at hv; obtain ⟨c, _, rfl⟩ := List.mem_map.1 hv; rfl)
  have hf := Lib.run_firstCells_string (P := P) w 1 s
  have hmin : Nat.min s.size dLen = s.size := Nat.min_eq_left hle
  cases hq : P.info? elem with
  | none => simp [hq] at hs
  | some i =>
    have hi : i.size = 1 := by simpa [hq] using hs
    rw [hl] at hst
    simp [Builtin.copy_, run_underlying hu, Builtin.lenOf, sizeOf, typeInfo, hq, hi, hmin, hf]
    simp at hst
    rw [hst]
    simp

theorem wpList_copy_str {P : Program} {w : World} {ops : Array Oper} {rest : List Oper} {o : Oper} {a : Act} {Q : Exit → Act → World → Prop} (hgd : o.guard = none) (d s : Operand) (dT sT : TypeId)
    (ho : o.op = .call { callee := .builtin .copy, args := #[d, s], argTypes := #[dT, sT] }) (elem : TypeId) (hu : P.underlying dT = some (.slice elem)) (hsz : (P.info? elem).map (·.size) = some 1)
    (g off dLen dCap : Nat) (x : ByteArray) (hd : a.eval d = .slice (some ⟨g, off, none⟩) dLen dCap) (hs : a.eval s = .string x)
    (cur : List Value) (t : TypeId) (hg : w.heap[g]? = some (.cells cur.toArray t (0, 0))) (hle : x.size ≤ dLen) (hfit : off + x.size ≤ cur.length) (B : Nat) (w0 : World) (hb : Below B w0 w) (hBg : B ≤ g)
    (h : ∀ w', Hid (w'.heap[g]? = some (.cells (splice cur off (Lib.strCells x)).toArray t (0, 0))) → Below B w0 w' → wpList P ops Q rest (a.put o.dst (goInt x.size)) w') :
    wpList P ops Q (o :: rest) a w := by
  refine wpList_plain hgd fun K hK => ?_
  have hl : (Lib.strCells x).length = x.size := by rw [Lib.strCells_eq, Lib.byteCells_length, size_of_list]
  have hrun := run_copy_str (P := P) w dT sT o.type elem g off dLen dCap x cur t hu hsz hg hle hfit
  unfold Oper.wp
  simp [execOp, ho, resolve, invoke, builtin, hd, hs, hrun, Result.andThen]
  refine hK _ _ (h _ (show _ = _ from ?_) (below_setRow hb hBg _))
  rw [setRow_heap w g _ _ t _ hg]
  simp [splice, hl]

/-- What the map of the digits holds behind k rounds. -/
def dmV (k : Nat) (c : UInt8) : Nat := match b64V c with | some d => if d < k then d else 255 | none => 255
def dmapL (k : Nat) : List Value := (List.range 256).map fun c => Value.int .u8 (dmV k (UInt8.ofNat c) : Nat)
def encL (k : Nat) : List Value := Lib.strCells digB64 ++ (dmapL k ++ [.int .i32 61, .bool false])

theorem encL_len (k : Nat) : (encL k).length = 322 := by simp [encL, dmapL, Lib.strCells]; rfl
theorem encL_map (k : Nat) (c : UInt8) : (encL k)[64 + c.toNat]? = some (.int .u8 (dmV k c : Nat)) := by
  have hc := c.toNat_lt
  have h64 : (Lib.strCells digB64).length = 64 := by rfl
  have hd : (dmapL k).length = 256 := by simp [dmapL]
  unfold encL
  rw [List.getElem?_append_right (by omega), h64, Nat.add_sub_cancel_left, List.getElem?_append_left (by omega)]
  simp [dmapL, hc]
theorem dmV_step (k : Nat) (hk : k < 64) (c : UInt8) : dmV (k + 1) c = if c = digC k then k else dmV k c := by
  unfold dmV
  by_cases h : c = digC k
  · rw [if_pos h, (dig_iff k hk c).1 h.symm]; simp
  · rw [if_neg h]
    have h2 : b64V c ≠ some k := fun e => h ((dig_iff k hk c).2 e).symm
    cases hb : b64V c with
    | none => rfl
    | some d =>
      have : d ≠ k := fun e => h2 (by rw [hb, e])
      by_cases hd : d < k
      · simp [hd, show d < k + 1 by omega]
      · simp [hd, show ¬ d < k + 1 by omega]
theorem encL_step (k : Nat) (hk : k < 64) : (encL k).set (64 + (digC k).toNat) (.int .u8 (k : Int)) = encL (k + 1) := by
  have hc := (digC k).toNat_lt
  have h64 : (Lib.strCells digB64).length = 64 := by rfl
  have hd : (dmapL k).length = 256 := by simp [dmapL]
  unfold encL
  rw [List.set_append_right _ _ (by omega), h64, Nat.add_sub_cancel_left, List.set_append_left _ _ (by omega)]
  congr 2
  apply List.ext_getElem?
  intro j
  rw [List.getElem?_set]
  by_cases hj : j < 256
  · have e : (UInt8.ofNat j).toNat = j := by rw [UInt8.toNat_ofNat']; omega
    have hs := dmV_step k hk (UInt8.ofNat j)
    by_cases hjc : (digC k).toNat = j
    · have : UInt8.ofNat j = digC k := by rw [← hjc, UInt8.ofNat_toNat]
      rw [if_pos this] at hs
      simp [hjc, hj, dmapL, hs]
    · have : UInt8.ofNat j ≠ digC k := fun h => hjc (by rw [← h, e])
      rw [if_neg this] at hs
      simp [hjc, dmapL, hj, hs]
  · have h1 : (digC k).toNat ≠ j := by omega
    simp [h1, dmapL, hj]
theorem dmV_new (k : Nat) (hk : k < 64) : dmV k (digC k) = 255 := by
  unfold dmV; rw [(dig_iff k hk _).1 rfl]; simp
def ff64 : List UInt8 := [255, 255, 255, 255, 255, 255, 255, 255, 255, 255, 255, 255, 255, 255, 255, 255, 255, 255, 255, 255, 255, 255, 255, 255, 255, 255, 255, 255, 255, 255, 255, 255, 255, 255, 255, 255, 255, 255, 255, 255, 255, 255, 255, 255, 255, 255, 255, 255, 255, 255, 255, 255, 255, 255, 255, 255, 255, 255, 255, 255, 255, 255, 255, 255]
def ffL : ByteArray := ⟨((ff64.append ff64).append (ff64.append ff64)).toArray⟩
theorem encL_zero : splice (splice (Tryd.zeroCells120.setIfInBounds 320 (Value.int IntKind.i32 61)).toList 0 (Lib.strCells digB64)) 64 (Lib.strCells ffL) = encL 0 := by kernel_rfl

/-- An Encoding of the standard alphabet lies at block b. -/
def EncAt (w : World) (b : Nat) : Prop := w.heap[b]? = some (.cells (encL 64).toArray 120 (0, 0))

theorem digC_get (k : Nat) (hk : k < 64) : digB64.data.toList[k]? = some (digC k) := by
  have : k < digB64.data.toList.length := hk
  unfold digC
  rw [List.getD_eq_getElem?_getD, List.getElem?_eq_getElem this]; rfl

set_option maxHeartbeats 1000000 in
set_option maxRecDepth 100000 in
theorem newEnc_any (w : World) :
    Calls Tryd.prog 62 #[.string digB64] w fun e w' => e = .returned (.pointer (some ⟨w.heap.size, 0, none⟩)) ∧ Below w.heap.size w w' ∧ EncAt w' w.heap.size := by
  obtain ⟨s, hs⟩ : ∃ s, s = digB64 := ⟨_, rfl⟩
  have Hs := hidF hs
  have hsz : s.size = 64 := by rw [hs]; rfl
  obtain ⟨ff, hff⟩ : ∃ s, s = ffL := ⟨_, rfl⟩
  have Hff := hidF hff
  rw [← hs]
  clear hs hff
  obtain ⟨L0, hL0⟩ : ∃ L0, L0 = (Tryd.zeroCells120.setIfInBounds 320 (Value.int IntKind.i32 61)).toList := ⟨_, rfl⟩
  have HL0 := hidF hL0
  obtain ⟨L1, hL1⟩ : ∃ L1, L1 = splice L0 0 (Lib.strCells s) := ⟨_, rfl⟩
  have HL1 := hidF hL1
  have hl0 := hidF (show L0.length = 322 by rw [hL0]; kernel_rfl)
  have hl1 := hidF (show L1.length = 322 by rw [hL1, length_splice _ _ _ (by rw [hl0.out, Lib.strCells_eq, Lib.byteCells_length, ← size_of_list, hsz]; decide), hl0.out])
  have H0 := hidF (show splice L1 64 (Lib.strCells ff) = encL 0 by rw [hL1, hL0, Hff.out, Hs.out]; exact encL_zero)
  clear hL0 hL1
  have hb0 : Below w.heap.size w (w.alloc (.cells (Tryd.zeroCells120.setIfInBounds 320 (Value.int IntKind.i32 61)) 120)) := (Below.refl _ _).alloc (Nat.le_refl _) _
  have hh0 := hidF (show (w.alloc (.cells (Tryd.zeroCells120.setIfInBounds 320 (Value.int IntKind.i32 61)) 120)).heap[w.heap.size]? = some (.cells L0.toArray 120 (0, 0)) by rw [heap_alloc_new, HL0.out])
  have hfs := hidF (show ff.size = 256 by rw [Hff.out]; rfl)
  go_enter Tryd.func62, Tryd.ntmps62
  go_wp2_with (refine wpList_copy_str rfl (.tmp 16) (.tmp 17) 39 9 rfl 5 (by kernel_rfl) (by kernel_rfl) w.heap.size 0 64 64 s rfl rfl L0 120 hh0.out ?c2 ?c3 w.heap.size w hb0 (Nat.le_refl _) ?_)
  case c2 => omega
  case c3 => rw [hl0.out]; omega
  rw [← HL1.out]
  clear hb0 hh0
  intro w1 HG1 hb1
  go_wp2_with (refine wpList_copy_str rfl (.tmp 22) _ 39 9 rfl 5 (by kernel_rfl) (by kernel_rfl) w.heap.size 64 256 256 ff rfl (congrArg Value.string (Hff.out).symm) L1 120 HG1.out ?d2 ?d3 w.heap.size w hb1 (Nat.le_refl _) ?_)
  case d2 => rw [hfs.out]; decide
  case d3 => rw [hl1.out, hfs.out]; decide
  rw [H0.out]
  clear hb1 HG1 H0
  intro w2 HG2 hb2
  go_wp2_with fail
  clear HL0 HL1 hl0 hl1 hfs Hff
  go_loopw [4] (fun iv wr => ∃ k : Nat, k ≤ 64 ∧ iv = .int .i64 k ∧ Hid (wr.heap[w.heap.size]? = some (.cells (encL k).toArray 120 (0, 0))) ∧ Below w.heap.size w wr) (fun iv _ => 64 - (intOf iv).toNat)
  case atStart => exact ⟨0, Nat.zero_le _, rfl, HG2, hb2⟩
  case round =>
    obtain ⟨k, hk, rfl, hrow, hb⟩ := hrel
    by_cases hlt : k < 64
    · have hks : k < s.size := by omega
      have hz : (k : Int) < (s.size : Int) := by omega
      have hz2 : (k : Int) < 64 := by omega
      have hsk := hidF (show s[k] = digC k by
        have h1 := get_of s k hks
        have h2 := digC_get k hlt
        have e : s.data.toList[k]? = digB64.data.toList[k]? := by rw [Hs.out]
        rw [e, h2] at h1
        exact (Option.some.inj h1).symm)
      have n10 : ((s[k].toNat : Int) == 10) = false := beq_eq_false_iff_ne.2 (by
        have h : ∀ j : Fin 64, (digC j.val).toNat ≠ 10 := by decide
        have := h ⟨k, hlt⟩
        rw [hsk.out]; simp at this ⊢; omega)
      have n13 : ((s[k].toNat : Int) == 13) = false := beq_eq_false_iff_ne.2 (by
        have h : ∀ j : Fin 64, (digC j.val).toNat ≠ 13 := by decide
        have := h ⟨k, hlt⟩
        rw [hsk.out]; simp at this ⊢; omega)
      have hcell : wr.cell? ⟨w.heap.size, 64 + s[k].toNat, none⟩ = some (.int .u8 255) := by
        rw [cell_of_row wr _ _ _ _ _ hrow.out, hsk.out]
        have := encL_map k (digC k)
        rw [dmV_new k hlt] at this
        simpa using this
      have hfr : wr.frozen? ⟨w.heap.size, 64 + s[k].toNat, none⟩ = false := frozen_of_row wr _ _ _ _ hrow.out
      have w8 : IntKind.u8.wrap (k : Int) = (k : Int) := IntWalk.u8_in _ (by omega)
      have hc := s[k].toNat_lt
      have hc2 : (s[k].toNat : Int) < 256 := by omega
      go_wp2_with fail
      go_quiet (fail)
      go_wp2_with fail
      go_still_tail 9, (by kernel_rfl)
      change wpList _ _ _ _ _ ((wr.drewN nq).drew)
      have hx1 : ((wr.drewN nq).drew).cell? ⟨w.heap.size, 64 + s[k].toNat, none⟩ = some (.int .u8 255) := hcell
      have hx2 : ((wr.drewN nq).drew).frozen? ⟨w.heap.size, 64 + s[k].toNat, none⟩ = false := hfr
      have hx3 := hidF (show ((wr.drewN nq).drew).heap[w.heap.size]? = some (.cells (encL k).toArray 120 (0, 0)) from hrow.out)
      have hx4 : Below w.heap.size w ((wr.drewN nq).drew) := hb.trans ⟨rfl, rfl, rfl, Nat.le_refl _, fun _ _ => rfl⟩
      obtain ⟨wx, hx⟩ : ∃ wx, wx = (wr.drewN nq).drew := ⟨_, rfl⟩
      rw [← hx] at hx1 hx2 hx3 hx4 ⊢
      clear hx hcell hfr
      have hn := hidF (show (wx.setCell ⟨w.heap.size, 64 + s[k].toNat, none⟩ (.int .u8 (k : Int))).heap[w.heap.size]? = some (.cells (encL (k + 1)).toArray 120 (0, 0)) by
        rw [heap_setCell_same wx _ _ _ _ _ hx3.out, ← encL_step k hlt, hsk.out]
        simp)
      go_wp2_with fail
      go_roundw
      case rel => exact ⟨k + 1, hlt, by go_num, hn, hx4.setCell (p := ⟨w.heap.size, _, none⟩) (Nat.le_refl _) _⟩
      case measure => simp [intOf]; omega
    · have hz : ¬ (k : Int) < (s.size : Int) := by omega
      have hz2 : ¬ (k : Int) < 64 := by omega
      obtain rfl : k = 64 := by omega
      go_wp2_with fail
      go_ret
      exact ⟨rfl, hb, hrow.out⟩
end Go.Proofs.YtbpoecfbcmdeeaaDoor
