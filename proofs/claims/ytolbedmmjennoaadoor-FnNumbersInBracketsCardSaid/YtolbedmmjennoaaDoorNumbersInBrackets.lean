/- FnNumbersInBrackets is proved. -/
import Derived.Test.YtolbedmmjennoaaDoorDomain
import Derived.Test.YtolbedmmjennoaaDoorNetip
import Derived.Test.YtolbedmmjennoaaDoorQText
import Derived.Test.YtolbedmmjennoaaDoorShelf
import Derived.Lib.LaidU8T
import Derived.LaidMore
import Derived.Lay
import Derived.SevenTiedAt
import Derived.Stop.Joined
import Derived.Test.YtolbedmmjennoaaDoorCards
import Derived.Test.YtolbedmmjennoaaDoorTie
import Derived.WalkKit
import Derived.ProofKit
import Derived.OpenShut
import Derived.ShutString
import Derived.ChangeOld
import Derived.Below
import Derived.Deep.DeepCutAuto
import Derived.Carry
import Derived.Laws.IdiomArrays
namespace Go.Proofs.YtolbedmmjennoaaDoor.fnNumbersInBrackets
open Go.ChangeShapes Go.WideShapes Go.ChangeAt Go.RowKit
open Go.ChangeMaps (open_string shut_string)

theorem mailDomain_any (s t z : ByteArray) (p : Addr) (w : World) (e1 : s.data.toList = 91 :: (t.data.toList ++ 93 :: z.data.toList)) (ht : ∀ c ∈ t.data.toList, numC c) (hs : t.size ≤ 100) (hsc : scan t.data.toList 0 0 0 = true)
    (hZ : ZTabs p w) (hT : Lib.Utf8Tabs 0 1 w) :
    Calls Tryd.prog 15 #[.string s] w fun e w' => e = .returned (.tuple #[.string (⟨#[91]⟩ ++ t ++ ⟨#[93]⟩), .string z, .bool true]) ∧ Below w.heap.size w w' := by
  have hb0 : ∀ w', (w.alloc (.cells #[.string s, .pointer none] 54)).grownBy w' (some w.heap.size) → Below w.heap.size w w' := fun w' hg => ((Below.refl w.heap.size w).alloc (Nat.le_refl _) (.cells #[.string s, .pointer none] 54)).trans (below_grown hg (Nat.le_refl _) (by simp))
  have hcall := hidF (domain_any w.heap.size s t z _ e1 (PAt.made w s) ht (by omega) (fun w' hg => utf8_below hT (hb0 w' hg)) (fun w' hg => isIP4_any t p w' (hZ.below (hb0 w' hg) (Nat.le_refl _)) hs ht hsc))
  clear e1 ht hsc
  go_enter Tryd.func15, Tryd.ntmps15
  go_wp2_with fail
  refine hcall.out.mono ?_
  rintro e w1 ⟨rfl, hP, hg⟩
  have hb := hb0 w1 hg
  have hc := hP.cell
  clear hg hcall hb0
  go_wp2_with fail
  go_quiet (fail)
  go_wp2_with fail
  go_ret3
  exact ⟨rfl, ⟨hb.os, hb.tape, hb.output, hb.size, hb.block⟩⟩

theorem implDomain_any (s t z : ByteArray) (p : Addr) (w : World) (e1 : s.data.toList = 91 :: (t.data.toList ++ 93 :: z.data.toList)) (ht : ∀ c ∈ t.data.toList, numC c) (hs : t.size ≤ 100) (hsc : scan t.data.toList 0 0 0 = true)
    (hZ : ZTabs p w) (hT : Lib.Utf8Tabs 0 1 w) :
    Calls Tryd.prog 9 #[.string s] w fun e w' => e = .returned (.tuple #[.string (⟨#[91]⟩ ++ t ++ ⟨#[93]⟩), .string z, .bool true]) ∧ Below w.heap.size w w' := by
  have hcall := hidF (mailDomain_any s t z p w e1 ht hs hsc hZ hT)
  clear e1 ht hsc
  go_enter Tryd.func9, Tryd.ntmps9
  go_wp2_with fail
  refine hcall.out.mono ?_
  rintro e w1 ⟨rfl, hb⟩
  clear hcall
  go_wp2_with fail
  go_ret3
  exact ⟨rfl, hb⟩

/-- What stands behind the bracket once k numbers are written. -/
def preL (a b c d : UInt8) : Nat → List UInt8
  | 0 => []
  | 1 => numL a
  | 2 => numL a ++ 46 :: numL b
  | 3 => numL a ++ 46 :: (numL b ++ 46 :: numL c)
  | _ => numsL a b c d
def nth (a b c d : UInt8) : Nat → UInt8
  | 0 => a
  | 1 => b
  | 2 => c
  | _ => d
theorem preL_step (a b c d : UInt8) (k : Nat) (hk : k < 4) : preL a b c d (k + 1) = preL a b c d k ++ ((if 0 < k then [46] else []) ++ numL (nth a b c d k)) := by
  match k, hk with
  | 0, _ => simp [preL, nth]
  | 1, _ => simp [preL, nth]
  | 2, _ => simp [preL, nth]
  | 3, _ => simp [preL, nth, numsL]
theorem preL_len (a b c d : UInt8) (k : Nat) (hk : k ≤ 4) : (preL a b c d k).length ≤ 15 := by
  have := numL_len a
  have := numL_len b
  have := numL_len c
  have := numsL_len a b c d
  match k, hk with
  | 0, _ => simp [preL]
  | 1, _ => simp only [preL]; omega
  | 2, _ => simp only [preL, List.length_append, List.length_cons]; omega
  | 3, _ => simp only [preL, List.length_append, List.length_cons]; omega
  | 4, _ => simp only [preL]; omega

theorem nth_run0 (x0 x1 x2 x3 : Int) (w : World) : (Instr.index 28 (.agg #[.int .u8 x0, .int .u8 x1, .int .u8 x2, .int .u8 x3]) (.int .i64 0)).run Tryd.prog w = .ok (.int .u8 x0) w := by kernel_rfl
theorem nth_run1 (x0 x1 x2 x3 : Int) (w : World) : (Instr.index 28 (.agg #[.int .u8 x0, .int .u8 x1, .int .u8 x2, .int .u8 x3]) (.int .i64 1)).run Tryd.prog w = .ok (.int .u8 x1) w := by kernel_rfl
theorem nth_run2 (x0 x1 x2 x3 : Int) (w : World) : (Instr.index 28 (.agg #[.int .u8 x0, .int .u8 x1, .int .u8 x2, .int .u8 x3]) (.int .i64 2)).run Tryd.prog w = .ok (.int .u8 x2) w := by kernel_rfl
theorem nth_run3 (x0 x1 x2 x3 : Int) (w : World) : (Instr.index 28 (.agg #[.int .u8 x0, .int .u8 x1, .int .u8 x2, .int .u8 x3]) (.int .i64 3)).run Tryd.prog w = .ok (.int .u8 x3) w := by kernel_rfl
theorem nth_run (a b c d : UInt8) (k : Nat) (hk : k < 4) (w : World) : (Instr.index 28 (.agg #[.int .u8 (a.toNat : Int), .int .u8 (b.toNat : Int), .int .u8 (c.toNat : Int), .int .u8 (d.toNat : Int)]) (.int .i64 (k : Int))).run Tryd.prog w = .ok (.int .u8 ((nth a b c d k).toNat : Int)) w := by
  match k, hk with
  | 0, _ => exact nth_run0 _ _ _ _ w
  | 1, _ => exact nth_run1 _ _ _ _ w
  | 2, _ => exact nth_run2 _ _ _ _ w
  | 3, _ => exact nth_run3 _ _ _ _ w

theorem mkB_app (a b : List UInt8) : mkB a ++ mkB b = mkB (a ++ b) := by
  rw [← list_mkB (mkB a ++ mkB b), append_list, mkB_list, mkB_list]
theorem point_mkB : (⟨#[46]⟩ : ByteArray) = mkB [46] := rfl
theorem digit_encode (c : UInt8) (h : c.toNat < 128) : Utf8.encode ((c.toNat : Nat) : Int) = mkB [c] := by
  have := encode_head [c] (by simp) (by rw [decode_ascii_l c [] h]; dsimp only; omega)
  rw [decode_ascii_l c [] h] at this
  dsimp only at this
  rw [← list_mkB (Utf8.encode ((c.toNat : Nat) : Int)), this]; rfl
theorem digit_run (k : Nat) (h : k < 10) (v : Int) (hv : v = 48 + (k : Int)) : ∃ d : ByteArray, (∀ w, (convert 21 9 (.int .i32 v)).run Tryd.prog w = .ok (.string d) w) ∧ d.size = 1 ∧ Hid (d = mkB [digitC k]) := by
  refine ⟨mkB [digitC k], fun w => ?_, rfl, rfl⟩
  have hk := digitC_nat k h
  rw [hv, show (48 + (k : Int)) = (((digitC k).toNat : Nat) : Int) by omega, ← digit_encode _ (by omega)]
  exact run_convert_int_string w _ _ _ _ (by kernel_rfl) Tryd.underlying9

set_option maxHeartbeats 4000000 in
set_option maxRecDepth 100000 in
theorem walk (a b c d : UInt8) (t : ByteArray) (p : Addr) (w : World) (ht : t.size ≤ maxLen) (hZ : ZTabs p w)
    (hT : Lib.Utf8Tabs 0 1 w) :
    Calls Tryd.prog 4 #[.agg #[.int .u8 (a.toNat : Int), .int .u8 (b.toNat : Int), .int .u8 (c.toNat : Int), .int .u8 (d.toNat : Int)], .string t] w fun e w' => e = .returned (.bool true) ∧ Below w.heap.size w w' := by
  unfold maxLen at ht
  have hb0 : Below w.heap.size w (w.alloc (.cells #[.int .u8 (a.toNat : Int), .int .u8 (b.toNat : Int), .int .u8 (c.toNat : Int), .int .u8 (d.toNat : Int)] 28)) := (Below.refl w.heap.size w).alloc (Nat.le_refl _) _
  by_cases hbig1 : 2147483647 < t.size
  · have e1 : (2147483647 : Int) < (t.size : Int) := by omega
    go_enter Tryd.func4, Tryd.ntmps4
    go_wp2_with fail
    go_ret
    exact ⟨rfl, hb0⟩
  have e1 : ¬ (2147483647 : Int) < (t.size : Int) := by omega
  by_cases hbig2 : 4096 < t.size
  · have e2 : (4096 : Int) < (t.size : Int) := by omega
    go_enter Tryd.func4, Tryd.ntmps4
    go_wp2_with fail
    go_ret
    exact ⟨rfl, hb0⟩
  have e2 : ¬ (4096 : Int) < (t.size : Int) := by omega
  have hi := fun (k : Nat) (hk : k < 4) (w : World) => nth_run a b c d k hk w
  have HI := hidF hi
  clear hi
  go_enter Tryd.func4, Tryd.ntmps4
  go_wp2_with fail
  refine (validString_any t _ (by omega) (utf8_below hT hb0)).mono ?_
  rintro e w1 ⟨rfl, hb1⟩
  have hb2 := hb0.trans (hb1.mono hb0.size)
  have hbk : w1.heap[w.heap.size]? = some (.cells #[.int .u8 (a.toNat : Int), .int .u8 (b.toNat : Int), .int .u8 (c.toNat : Int), .int .u8 (d.toNat : Int)] 28 (0, 0)) := (hb1.block w.heap.size (by simp)).trans (heap_alloc_new w _)
  have c0 : w1.cell? ⟨w.heap.size, 0, none⟩ = some (.int .u8 (a.toNat : Int)) := by simp [World.cell?, hbk]
  have c1 : w1.cell? ⟨w.heap.size, 1, none⟩ = some (.int .u8 (b.toNat : Int)) := by simp [World.cell?, hbk]
  have c2 : w1.cell? ⟨w.heap.size, 2, none⟩ = some (.int .u8 (c.toNat : Int)) := by simp [World.cell?, hbk]
  have c3 : w1.cell? ⟨w.heap.size, 3, none⟩ = some (.int .u8 (d.toNat : Int)) := by simp [World.cell?, hbk]
  clear hbk
  cases hv : Lib.validD t.data.toList with
  | false =>
    clear c0 c1 c2 c3 hv
    go_wp2_with fail
    go_ret
    exact ⟨rfl, hb2⟩
  | true =>
    have Hv := hidF hv
    clear hv
    go_wp2_with fail
    clear c0 c1 c2 c3
    go_loop [5, 23] (fun v5 v23 => ∃ k : Nat, k ≤ 4 ∧ v23 = .int .i64 k ∧ v5 = .string (mkB (91 :: preL a b c d k))) (fun _ v23 => 4 - (intOf v23).toNat)
    case atStart => exact ⟨0, by omega, rfl, rfl⟩
    case round =>
      obtain ⟨k, hk, rfl, rfl⟩ := hrel
      by_cases hlt : k < 4
      · have hz : (k : Int) < 4 := by omega
        have hrun := HI.out k hlt
        obtain ⟨x, hx⟩ : ∃ x, x = nth a b c d k := ⟨_, rfl⟩
        obtain ⟨l, hl⟩ : ∃ l, l = mkB (91 :: preL a b c d k) := ⟨_, rfl⟩
        have hst := preL_step a b c d k hlt
        have hln := preL_len a b c d k hk
        rw [← hx] at hrun hst
        rw [← hl]
        have hls : l.size ≤ 16 := by rw [hl, size_mkB, List.length_cons]; omega
        have Hst := hidF hst
        have Hl := hidF hl
        have xlt := x.toNat_lt
        clear hst hl hx hln
        obtain ⟨d1, hd1, hd1s, Hd1⟩ := digit_run (x.toNat / 100) (by omega) (48 + (x.toNat : Int) / 100) (by omega)
        obtain ⟨d2, hd2, hd2s, Hd2⟩ := digit_run (x.toNat / 10 % 10) (by omega) (48 + (x.toNat : Int) / 10 % 10) (by omega)
        obtain ⟨d3, hd3, hd3s, Hd3⟩ := digit_run (x.toNat % 10) (by omega) (48 + (x.toNat : Int) % 10) (by omega)
        by_cases hk0 : 0 < k
        · have g0 : (0 : Int) < (k : Int) := by omega
          by_cases h99 : 99 < x.toNat
          · have g1 : (99 : Int) < (x.toNat : Int) := by omega
            have g2 : (9 : Int) < (x.toNat : Int) := by omega
            have n1 : ¬ 9223372036854775807 < l.size + 1 := by omega
            have n2 : ¬ 9223372036854775807 < l.size + 1 + d1.size := by omega
            have n3 : ¬ 9223372036854775807 < l.size + 1 + d1.size + d2.size := by omega
            have n4 : ¬ 9223372036854775807 < l.size + 1 + d1.size + d2.size + d3.size := by omega
            go_wp2_with fail
            go_round
            case rel =>
              refine ⟨k + 1, by omega, by go_num, ?_⟩
              rw [Hst.out, Hl.out, Hd1.out, Hd2.out, Hd3.out, numL, if_pos hk0, if_pos h99, if_pos (show 9 < x.toNat by omega)]
              simp [mkB_app, point_mkB]
            case measure => simp [intOf]; omega
          have g1 : ¬ (99 : Int) < (x.toNat : Int) := by omega
          by_cases h9 : 9 < x.toNat
          · have g2 : (9 : Int) < (x.toNat : Int) := by omega
            have n1 : ¬ 9223372036854775807 < l.size + 1 := by omega
            have n2 : ¬ 9223372036854775807 < l.size + 1 + d2.size := by omega
            have n3 : ¬ 9223372036854775807 < l.size + 1 + d2.size + d3.size := by omega
            go_wp2_with fail
            go_round
            case rel =>
              refine ⟨k + 1, by omega, by go_num, ?_⟩
              rw [Hst.out, Hl.out, Hd2.out, Hd3.out, numL, if_pos hk0, if_neg h99, if_pos (show 9 < x.toNat by omega)]
              simp [mkB_app, point_mkB]
            case measure => simp [intOf]; omega
          · have g2 : ¬ (9 : Int) < (x.toNat : Int) := by omega
            have n1 : ¬ 9223372036854775807 < l.size + 1 := by omega
            have n2 : ¬ 9223372036854775807 < l.size + 1 + d3.size := by omega
            go_wp2_with fail
            go_round
            case rel =>
              refine ⟨k + 1, by omega, by go_num, ?_⟩
              rw [Hst.out, Hl.out, Hd3.out, numL, if_pos hk0, if_neg h99, if_neg h9]
              simp [mkB_app, point_mkB]
            case measure => simp [intOf]; omega
        · have g0 : ¬ (0 : Int) < (k : Int) := by omega
          by_cases h99 : 99 < x.toNat
          · have g1 : (99 : Int) < (x.toNat : Int) := by omega
            have g2 : (9 : Int) < (x.toNat : Int) := by omega
            have n1 : ¬ 9223372036854775807 < l.size + d1.size := by omega
            have n2 : ¬ 9223372036854775807 < l.size + d1.size + d2.size := by omega
            have n3 : ¬ 9223372036854775807 < l.size + d1.size + d2.size + d3.size := by omega
            go_wp2_with fail
            go_round
            case rel =>
              refine ⟨k + 1, by omega, by go_num, ?_⟩
              rw [Hst.out, Hl.out, Hd1.out, Hd2.out, Hd3.out, numL, if_neg hk0, if_pos h99, if_pos (show 9 < x.toNat by omega)]
              simp [mkB_app]
            case measure => simp [intOf]; omega
          have g1 : ¬ (99 : Int) < (x.toNat : Int) := by omega
          by_cases h9 : 9 < x.toNat
          · have g2 : (9 : Int) < (x.toNat : Int) := by omega
            have n1 : ¬ 9223372036854775807 < l.size + d2.size := by omega
            have n2 : ¬ 9223372036854775807 < l.size + d2.size + d3.size := by omega
            go_wp2_with fail
            go_round
            case rel =>
              refine ⟨k + 1, by omega, by go_num, ?_⟩
              rw [Hst.out, Hl.out, Hd2.out, Hd3.out, numL, if_neg hk0, if_neg h99, if_pos (show 9 < x.toNat by omega)]
              simp [mkB_app]
            case measure => simp [intOf]; omega
          · have g2 : ¬ (9 : Int) < (x.toNat : Int) := by omega
            have n1 : ¬ 9223372036854775807 < l.size + d3.size := by omega
            go_wp2_with fail
            go_round
            case rel =>
              refine ⟨k + 1, by omega, by go_num, ?_⟩
              rw [Hst.out, Hl.out, Hd3.out, numL, if_neg hk0, if_neg h99, if_neg h9]
              simp [mkB_app]
            case measure => simp [intOf]; omega
      · have hz : ¬ (k : Int) < 4 := by omega
        obtain rfl : k = 4 := by omega
        have hq1 : mkB (91 :: preL a b c d 4) = ⟨#[91]⟩ ++ mkB (numsL a b c d) := by
          rw [show (⟨#[91]⟩ : ByteArray) = mkB [91] from rfl, mkB_app]
          rfl
        obtain ⟨q, hq⟩ : ∃ q, q = mkB (91 :: preL a b c d 4) := ⟨_, rfl⟩
        rw [← hq] at hq1 ⊢
        have hql : (q ++ ⟨#[93]⟩ ++ t).data.toList = 91 :: ((mkB (numsL a b c d)).data.toList ++ 93 :: t.data.toList) := by
          rw [hq1]
          simp only [append_list]
          simp
        have hns : (mkB (numsL a b c d)).size ≤ 15 := by rw [size_mkB]; exact numsL_len a b c d
        have hqs : q.size ≤ 16 := by
          rw [hq, size_mkB, List.length_cons]
          have := numsL_len a b c d
          show (numsL a b c d).length + 1 ≤ 16
          omega
        have hcall := hidF (implDomain_any (q ++ ⟨#[93]⟩ ++ t) (mkB (numsL a b c d)) t p w1 hql (by rw [mkB_list]; exact numsL_ok a b c d) (by omega) (by rw [mkB_list]; exact scan_nums a b c d) (hZ.below hb2 (Nat.le_refl _)) (utf8_below hT hb2))
        rw [← hq1] at hcall
        clear hq hq1 hql hns
        have n1 : ¬ 9223372036854775807 < q.size + 1 := by omega
        have n2 : ¬ 9223372036854775807 < q.size + 1 + t.size := by omega
        go_wp2_with fail
        refine hcall.out.mono ?_
        rintro e w2 ⟨rfl, hb3⟩
        clear hcall
        go_wp2_with fail
        go_ret
        exact ⟨by simp, hb2.trans (hb3.mono hb2.size)⟩
theorem laidOut : laidOutB Tryd.prog = true := by kernel_rfl

set_option maxRecDepth 100000 in
/-- Four bytes as they come in. -/
theorem open_four {H : Type} {enc : TypeId × Value → H} {W : World} {base : Nat} {v : Value} {d : DataW H} {p : List MemPlace} (hval : Value.okWide Tryd.prog W .any base 28 v) (h : DataW.Trod enc Tryd.prog W 0 (fun _ => true) true 28 v d p) :
    ∃ b0 b1 b2 b3 : UInt8, v = .agg #[.int .u8 (b0.toNat : Int), .int .u8 (b1.toNat : Int), .int .u8 (b2.toNat : Int), .int .u8 (b3.toNat : Int)] := by
  simp only [Value.okWide, Tryd.underlying28] at hval
  obtain ⟨cs, rfl, hs, _⟩ := hval
  have hs4 : cs.size = 4 := by rw [hs]; kernel_rfl
  obtain ⟨c0, c1, c2, c3, rfl⟩ : ∃ c0 c1 c2 c3, cs = #[c0, c1, c2, c3] := by
    rcases cs with ⟨l⟩
    match l, hs4 with
    | [c0, c1, c2, c3], _ => exact ⟨c0, c1, c2, c3, rfl⟩
  obtain ⟨fuel, hf⟩ := h
  obtain ⟨y0, y1, y2, y3, n, _, h0, h1, h2, h3⟩ := trod_array4 Tryd.underlying28 (by kernel_rfl) hf
  obtain ⟨z0, e0, _, w0⟩ := DataW.trod_int Tryd.underlying5 h0
  obtain ⟨z1, e1, _, w1⟩ := DataW.trod_int Tryd.underlying5 h1
  obtain ⟨z2, e2, _, w2⟩ := DataW.trod_int Tryd.underlying5 h2
  obtain ⟨z3, e3, _, w3⟩ := DataW.trod_int Tryd.underlying5 h3
  have u8 : ∀ z : Int, (Lit.int .u8 z).wf = true → ∃ b : UInt8, z = (b.toNat : Int) := by
    intro z hz
    have hr : IntKind.u8.min ≤ z ∧ z ≤ IntKind.u8.max := by simpa [Lit.wf] using hz
    have hmin : IntKind.u8.min = 0 := rfl
    have hmax : IntKind.u8.max = 255 := rfl
    exact ⟨UInt8.ofNat z.toNat, by rw [UInt8.toNat_ofNat']; omega⟩
  obtain ⟨b0, rfl⟩ := u8 z0 w0
  obtain ⟨b1, rfl⟩ := u8 z1 w1
  obtain ⟨b2, rfl⟩ := u8 z2 w2
  obtain ⟨b3, rfl⟩ := u8 z3 w3
  simp only [List.cons.injEq, and_true] at e0 e1 e2 e3
  exact ⟨b0, b1, b2, b3, by rw [e0, e1, e2, e3]⟩

theorem ztabs_of {W : World} (h : laidMetH Tryd.prog Rows.fnNumbersInBracketsRow.laid W) : ∃ p, ZTabs p W := by
  rw [MakeChecks.laidMetH_plain _ _ _ (by kernel_rfl)] at h
  have h4 := Lib.laidMet.reads h (n := "net/netip.z4") (List.mem_of_getElem? (show Rows.fnNumbersInBracketsRow.laid[1]? = some ("net/netip.z4", Rows.laid_net_netip_z4) from rfl))
  have h0 := Lib.laidMet.reads h (n := "net/netip.z0") (List.mem_of_getElem? (show Rows.fnNumbersInBracketsRow.laid[3]? = some ("net/netip.z0", Rows.laid_net_netip_z0) from rfl))
  obtain ⟨g, t, cs, fuel, p, hg, hty, hvar, hd⟩ := h4
  obtain rfl := Option.some.inj ((show Tryd.prog.globalNamed "net/netip.z4" = some 4 by kernel_rfl).symm.trans hg)
  obtain rfl := Option.some.inj ((show (Tryd.prog.globals[4]?).map (·.type) = some 92 by kernel_rfl).symm.trans hty)
  obtain ⟨g', t', cs0, fuel', p', hg', hty', hvar', hd'⟩ := h0
  obtain rfl := Option.some.inj ((show Tryd.prog.globalNamed "net/netip.z0" = some 3 by kernel_rfl).symm.trans hg')
  obtain rfl := Option.some.inj ((show (Tryd.prog.globals[3]?).map (·.type) = some 92 by kernel_rfl).symm.trans hty')
  have c90 : Tryd.prog.cellsOf 90 = 1 := by kernel_rfl
  have c92 : Tryd.prog.cellsOf 92 = 1 := by kernel_rfl
  have c112 : Tryd.prog.cellsOf 112 = 2 := by kernel_rfl
  have c4 : Tryd.prog.cellsOf 4 = 1 := by kernel_rfl
  have c9 : Tryd.prog.cellsOf 9 = 1 := by kernel_rfl
  have v4 := World.var?_cell hg hvar 0
  have v0 := World.var?_cell hg' hvar' 0
  -- z0: none
  obtain ⟨xs, n, rfl, hx, hl, hxl, hall⟩ := DataW.trod_struct Tryd.underlying92 hd'
  obtain ⟨x0, rfl⟩ : ∃ x0, xs = [x0] := by
    match xs, hxl with
    | [x0], _ => exact ⟨x0, rfl⟩
  have f0 := hall 0 _ rfl
  change DataW.trod _ _ _ _ _ _ _ 90 ((cs0.toList.drop 0).take (Tryd.prog.cellsOf 90)) = some x0 at f0
  rw [c90] at f0
  have e0 : x0.1 = .nil := by
    have := congrArg Prod.fst hx
    simpa [Rows.laid_net_netip_z0] using this.symm
  have z0 : W.cell? ⟨3, 0, none⟩ = some (.pointer none) := by
    rcases DataW.trod_pointer Tryd.underlying90 f0 with ⟨hc, _⟩ | ⟨a, cs', y, m, _, hc, hx', _⟩
    · rw [v0]
      have := congrArg (·[0]?) hc
      simpa [List.getElem?_take, List.getElem?_drop] using this
    · rw [hx'] at e0; cases e0
  -- z4: a pointer
  obtain ⟨ys, n4, rfl, hy, hl4, hyl, hall4⟩ := DataW.trod_struct Tryd.underlying92 hd
  obtain ⟨y0, rfl⟩ : ∃ y0, ys = [y0] := by
    match ys, hyl with
    | [y0], _ => exact ⟨y0, rfl⟩
  have k0 := hall4 0 _ rfl
  change DataW.trod _ _ _ _ _ _ _ 90 ((cs.toList.drop 0).take (Tryd.prog.cellsOf 90)) = some y0 at k0
  rw [c90] at k0
  have ey : y0.1 = .ptr (.agg [.lit (.bool false), .lit (.string [])]) := by
    have := congrArg Prod.fst hy
    simpa [Rows.laid_net_netip_z4] using this.symm
  rcases DataW.trod_pointer Tryd.underlying90 k0 with ⟨_, hx'⟩ | ⟨a, cs', y, m, rfl, hc, hx', hcells, hyd⟩
  · rw [hx'] at ey; cases ey
  have ey1 : y.1 = .agg [.lit (.bool false), .lit (.string [])] := by
    rw [hx'] at ey
    simpa using ey
  rw [c112] at hcells
  obtain ⟨_, hlen, hcell⟩ := World.cells?_some hcells
  obtain ⟨zs, n5, rfl, hz, hl5, hzl, hall5⟩ := DataW.trod_struct Tryd.underlying112 hyd
  obtain ⟨s0, s1, rfl⟩ : ∃ s0 s1, zs = [s0, s1] := by
    match zs, hzl with
    | [s0, s1], _ => exact ⟨s0, s1, rfl⟩
  have es : s0.1 = .lit (.bool false) ∧ s1.1 = .lit (.string []) := by
    rw [hz] at ey1
    simpa using ey1
  have m0 := hall5 0 _ rfl
  have m1 := hall5 1 _ rfl
  change DataW.trod _ _ _ _ _ _ _ 4 ((cs'.drop 0).take (Tryd.prog.cellsOf 4)) = some s0 at m0
  change DataW.trod _ _ _ _ _ _ _ 9 ((cs'.drop 1).take (Tryd.prog.cellsOf 9)) = some s1 at m1
  rw [c4] at m0
  rw [c9] at m1
  obtain ⟨bv, hb0, hb1⟩ := DataW.trod_bool Tryd.underlying4 m0
  obtain ⟨sv, hs0, hs1, _⟩ := DataW.trod_string Tryd.underlying9 m1
  rw [hb1, hs1] at es
  simp only [DataW.lit.injEq, Lit.bool.injEq, Lit.string.injEq] at es
  obtain ⟨rfl, hsv⟩ := es
  have hsv' : sv = ⟨#[]⟩ := by rw [← list_mkB sv, hsv]; rfl
  subst hsv'
  have q0 : cs'[0]? = some (.bool false) := by
    have := congrArg (·[0]?) hb0
    simpa [List.getElem?_take, List.getElem?_drop] using this
  have q1 : cs'[1]? = some (.string ⟨#[]⟩) := by
    have := congrArg (·[0]?) hs0
    simpa [List.getElem?_take, List.getElem?_drop] using this
  refine ⟨a, ⟨?_, z0, ?_, ?_⟩⟩
  · rw [v4]
    have := congrArg (·[0]?) hc
    simpa [List.getElem?_take, List.getElem?_drop] using this
  · have := hcell 0 (by omega)
    rw [q0, add_zero] at this
    exact this
  · have := hcell 1 (by omega)
    rw [q1] at this
    exact this

theorem own : ownKnob Tryd.prog.godebug = none := by kernel_rfl
theorem firstIs : Rows.laid_unicode_utf8_first = Lib.firstData := by kernel_rfl
theorem acceptIs : (Rows.laid_unicode_utf8_acceptRanges : DataW Unit) = Lib.acceptData := by kernel_rfl

theorem tabs_of {W : World} (h : laidMetH Tryd.prog Rows.fnNumbersInBracketsRow.laid W) : Lib.Utf8Tabs 0 1 W := by
  rw [MakeChecks.laidMetH_plain _ _ _ (by kernel_rfl)] at h
  have h1 := Lib.laidMet.reads h (n := "unicode/utf8.acceptRanges") (List.mem_of_getElem? (show Rows.fnNumbersInBracketsRow.laid[0]? = some ("unicode/utf8.acceptRanges", Rows.laid_unicode_utf8_acceptRanges) from rfl))
  have h2 := Lib.laidMet.reads h (n := "unicode/utf8.first") (List.mem_of_getElem? (show Rows.fnNumbersInBracketsRow.laid[4]? = some ("unicode/utf8.first", Rows.laid_unicode_utf8_first) from rfl))
  rw [acceptIs] at h1
  rw [firstIs] at h2
  exact utf8Tabs_of_readsT (U8Types.of196 Tryd.laysValid) ⟨by kernel_rfl, by kernel_rfl, by kernel_rfl, by kernel_rfl, by kernel_rfl, by kernel_rfl, by kernel_rfl⟩ h2 h1

theorem door_met (os : Os) (args : Array Value) : laidMetH Tryd.prog Rows.fnNumbersInBracketsRow.laid ((World.laidAll Tryd.prog os Rows.fnNumbersInBracketsRow.laid).forCall (fun _ _ => 0) ⟨#[], args, []⟩).memory := by
  rw [MakeChecks.laidMetH_plain _ _ _ (by kernel_rfl)]
  exact laidMet_laidAll _ (by kernel_rfl) (by kernel_rfl)

set_option maxRecDepth 100000 in
theorem lifted (os : Os) (started : os.Started) (H : Type) (enc : TypeId × Value → H) :
    ReturnsInHanded {} Tryd.checked os 4 .any (fun w args => (Rows.fnNumbersInBracketsSpec.pre enc Tryd.prog Tryd.f4 Rows.fnNumbersInBracketsRow.domain false w args ∧ laidMetH Tryd.prog Rows.fnNumbersInBracketsRow.laid w) ∧ sizedMet enc Tryd.prog Tryd.f4 (OpenSpec.ofChange Rows.fnNumbersInBracketsSpec) false w args)
      (Rows.fnNumbersInBracketsSpec.post enc Tryd.prog Tryd.f4 false true false false) := by
  refine returnsInHanded_of_change_and (C := Tryd.checked) (X := fun w _ => laidMetH Tryd.prog Rows.fnNumbersInBracketsRow.laid w) (fun _ _ _ hh h => h.of_heap hh) own started (by kernel_rfl) Tryd.func4
    (ChangeSpec.witness_shaped (enc := enc) (C := Tryd.checked) (os := os) (X := fun w _ => laidMetH Tryd.prog Rows.fnNumbersInBracketsRow.laid w) false (World.laidAll Tryd.prog os Rows.fnNumbersInBracketsRow.laid) #[.agg #[.int .u8 0, .int .u8 0, .int .u8 0, .int .u8 0], .string ByteArray.empty] 8 (World.laidAll_os _ _ _)
      (World.shaped_of_ZipB (by kernel_rfl) (by kernel_rfl)) (by kernel_rfl) (by kernel_rfl) (by kernel_rfl) (door_met os _)) ?_
  intro W base args ds gs before hval0 hW hc _ hL _
  have hval : ∀ (j : Nat) t v, Tryd.f4.params[j]? = some t → args[j]? = some v → Value.okWide Tryd.prog W .any base t v := hval0
  have hW' := hW
  obtain ⟨p, q, hA0, hV, rfl, hfz, hnd⟩ := hW
  have hA : DataW.TrodAll enc Tryd.prog W 0 (fun _ => true) true Tryd.f4.params.toList args.toList ds p := hA0
  rw [Tryd.params4] at hA hval
  obtain ⟨v0, vs0, d0, ds0, p0, q0, hargs, rfl, rfl, h0, r0⟩ := trodAll_cons hA
  obtain ⟨v1, vs1, d1, ds1, p1, q1, rfl, rfl, rfl, h1, r1⟩ := trodAll_cons r0
  obtain ⟨rfl, rfl, rfl⟩ := trodAll_nil r1
  obtain rfl : args = #[v0, v1] := by cases args; simp_all
  obtain ⟨rfl, rfl⟩ := trodVars_none hV
  have k0 := h0
  have lt0 : ∀ x ∈ p0, x.block < W.heap.size := by obtain ⟨m, hm⟩ := k0; exact DataW.trod_lt m _ _ _ hm
  obtain ⟨b0, b1, b2, b3, rfl⟩ := open_four (hval 0 28 v0 rfl rfl) h0
  obtain ⟨a1, rfl, rfl, rfl, w1⟩ := open_string Tryd.underlying9 (hval 1 9 v1 rfl rfl) h1
  obtain ⟨pz, hz⟩ := ztabs_of hL
  clear hA0 hval0
  refine (walk b0 b1 b2 b3 a1 pz W w1 hz (tabs_of hL)).mono fun e W' ⟨he, bel⟩ => ?_
  subst he
  exact ⟨_, rfl, _, _, _, [], _, [], hW', trodAll_mk1 (shut_bool Tryd.underlying4 _), (trodAll_cons_mk (Below.trod laidOut (by kernel_rfl) (of_decide_eq_true (by kernel_rfl)) k0 bel lt0) (trodAll_cons_mk (shut_string Tryd.underlying9 w1) trodAll_mk0)), rfl, bel.frame _, fun h => by cases h⟩

theorem over : Rows.FnNumbersInBracketsSaid :=
  OpenClaim.holds_of_wide 4 Tryd.f4 rfl rfl rfl rfl rfl rfl rfl ⟨rfl, rfl, rfl, rfl, rfl⟩ rfl rfl rfl rfl rfl (by kernel_rfl) Tryd.func4 (by kernel_rfl)
    (of_decide_eq_true (by kernel_rfl)) (by unfold Func.isWrapper; first | (rw [if_pos (by decide +kernel)]; kernel_rfl) | (rw [if_neg (by decide +kernel)]; exact ⟨rfl, rfl⟩))
    (fun os started H enc _ => lifted os started H enc)

theorem proved : Rows.FnNumbersInBracketsCardSaid :=
  Claim7.holds_tied_plain_at .later [] [.data, .called, .called, .zero, .pinned] true (true, "623653c3862542c578090f3ba4d206ab7e9ce16c1c165c77fcbdabf2ef7e2d24") false over (fun _ h => by cases h) (by kernel_rfl) (fun _ h => by cases h) fnNumbersInBrackets_row_tie rfl ⟨rfl, rfl⟩ (by kernel_rfl) rfl
    (fun f fn hf hfn => by
      obtain rfl : f = 4 := Option.some.inj ((show Tryd.prog.funcNamed "mailtexts/laws.FnNumbersInBrackets" = some 4 by kernel_rfl).symm.trans hf) |>.symm
      obtain rfl : fn = Tryd.f4 := (Option.some.inj (Tryd.func4.symm.trans hfn)).symm
      exact ⟨by kernel_rfl, fun j t ht => by
        rw [Tryd.params4] at ht
        have hm := Array.mem_of_getElem? ht
        have hall : (([28, 9] : List TypeId).all fun u => !Tryd.prog.wantsStandIn u) = true := by kernel_rfl
        exact (show Tryd.prog.wantsStandIn t = false by simpa using List.all_eq_true.1 hall t (by simpa using hm))⟩)
    (by kernel_rfl)
#print axioms proved
end Go.Proofs.YtolbedmmjennoaaDoor.fnNumbersInBrackets

