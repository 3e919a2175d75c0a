/- FnQuotedIsTaken is proved. -/
import Derived.Test.YtmneehbhhofabaaDoorQuotedUp
import Derived.Test.YtmneehbhhofabaaDoorQuotedLaw
import Derived.Test.YtmneehbhhofabaaDoorDotLaw
import Derived.Test.YtmneehbhhofabaaDoorInts
import Derived.ChangeSlices
import Derived.Test.YtmneehbhhofabaaDoorLaid
import Derived.Test.YtmneehbhhofabaaDoorCards
import Derived.Test.YtmneehbhhofabaaDoorTie
import Derived.WalkKit
import Derived.ProofKit
import Derived.OpenShut
import Derived.ShutString
import Derived.ChangeOld
import Derived.Below
namespace Go.Proofs.YtmneehbhhofabaaDoor.fnQuotedIsTaken
open Go.ChangeShapes Go.WideShapes Go.ChangeAt Go.RowKit
open Go.ChangeMaps (open_string shut_string)

set_option maxHeartbeats 4000000 in
set_option maxRecDepth 10000 in
theorem walk (s : ByteArray) (ao : Option Addr) (len cap : Nat) (zs : List Int) (t : ByteArray) (w : World) (hs : s.size ≤ maxLen) (hrow : IntRow w ao len cap zs) (ht : t.size ≤ maxLen)
    (hT : Lib.Utf8Tabs 0 1 w) :
    Calls Tryd.prog 3 #[.string s, .slice ao len cap, .string t] w fun e w' => e = .returned (.bool true) ∧ Below w.heap.size w w' := by
  unfold maxLen at hs ht
  have hlen := hrow.bound
  by_cases hbig : 2147483647 < s.size
  · have e1 : (2147483647 : Int) < (s.size : Int) := by omega
    go_enter Tryd.func3, Tryd.ntmps3
    go_wp2_with fail
    go_ret
    exact ⟨rfl, Below.refl _ _⟩
  have e1 : ¬ (2147483647 : Int) < (s.size : Int) := by omega
  by_cases hbig1 : 2147483647 < len
  · have e2 : (2147483647 : Int) < (len : Int) := by omega
    go_enter Tryd.func3, Tryd.ntmps3
    go_wp2_with fail
    go_ret
    exact ⟨rfl, Below.refl _ _⟩
  have e2 : ¬ (2147483647 : Int) < (len : Int) := by omega
  by_cases hbig2 : 2147483647 < t.size
  · have e3 : (2147483647 : Int) < (t.size : Int) := by omega
    go_enter Tryd.func3, Tryd.ntmps3
    go_wp2_with fail
    go_ret
    exact ⟨rfl, Below.refl _ _⟩
  have e3 : ¬ (2147483647 : Int) < (t.size : Int) := by omega
  clear hbig hbig1 hbig2 hlen
  by_cases h4 : 4096 < s.size
  · have e4 : (4096 : Int) < (s.size : Int) := by omega
    go_enter Tryd.func3, Tryd.ntmps3
    go_wp2_with fail
    go_ret
    exact ⟨rfl, Below.refl _ _⟩
  have e4 : ¬ (4096 : Int) < (s.size : Int) := by omega
  by_cases h5 : 4096 < t.size
  · have e5 : (4096 : Int) < (t.size : Int) := by omega
    go_enter Tryd.func3, Tryd.ntmps3
    go_wp2_with fail
    go_ret
    exact ⟨rfl, Below.refl _ _⟩
  have e5 : ¬ (4096 : Int) < (t.size : Int) := by omega
  go_enter Tryd.func3, Tryd.ntmps3
  go_wp2_with fail
  refine (validString_any s w (by omega) hT).mono ?_
  rintro e w1 ⟨rfl, hb⟩
  cases hv : Lib.validD s.data.toList with
  | false =>
    clear hv
    go_wp2_with fail
    go_ret
    exact ⟨rfl, hb⟩
  | true =>
    have Hv := hidF hv
    clear hv
    go_wp2_with fail
    refine (validString_any t w1 (by omega) (utf8_below hT hb)).mono ?_
    rintro e w2 ⟨rfl, hb2⟩
    have hb2 := hb.trans (hb2.mono hb.size)
    have hrow2 := hrow.below hb2
    cases hv : Lib.validD t.data.toList with
    | false =>
      clear hv hrow2
      go_wp2_with fail
      go_ret
      exact ⟨rfl, hb2⟩
    | true =>
      have Hrow := hidF hrow2
      clear hv hrow hrow2
      go_wp2_with fail
      go_loopw [46, 7] (fun iv sv wr => ∃ (k : Nat) (q : List UInt8), k ≤ s.size ∧ iv = .int .i64 k ∧ sv = .string (mkB (34 :: q)) ∧ Hid (Esc (s.data.toList.take k) q) ∧ q.length ≤ 2 * k ∧ wr = w2) (fun iv _ _ => s.size - (intOf iv).toNat)
      case atStart => exact ⟨0, [], Nat.zero_le _, rfl, rfl, .nil, Nat.zero_le _, rfl⟩
      case round =>
        obtain ⟨k, q, hk, rfl, rfl, hE, hql, rfl⟩ := hrel
        by_cases hlt : k < s.size
        · have hz : (k : Int) < (s.size : Int) := by omega
          have hone := hidF (one_mkB s k hlt)
          have n1 : ¬ 9223372036854775807 < (mkB (34 :: q)).size + 1 := by rw [size_mkB, List.length_cons]; omega
          have n2 : ¬ 9223372036854775807 < (mkB (34 :: q)).size + (min (k + 1) s.size - k) := by rw [size_mkB, List.length_cons]; omega
          have n3 : ¬ 9223372036854775807 < (mkB (34 :: q)).size + 1 + (min (k + 1) s.size - k) := by rw [size_mkB, List.length_cons]; omega
          by_cases h32 : s[k].toNat < 32
          · have g1 : (s[k].toNat : Int) < 32 := by omega
            go_wp2_with fail
            go_ret
            exact ⟨rfl, hb2⟩
          have g1 : ¬ (s[k].toNat : Int) < 32 := by omega
          by_cases h127 : s[k].toNat = 127
          · have g2 : ((s[k].toNat : Int) == 127) = true := beq_iff_eq.2 (by omega)
            go_wp2_with fail
            go_ret
            exact ⟨rfl, hb2⟩
          have g2 : ((s[k].toNat : Int) == 127) = false := beq_eq_false_iff_ne.2 (by omega)
          have hnc := hidF (show noCtl s[k] from ⟨by omega, h127⟩)
          clear h32 h127
          by_cases h34 : s[k] = 34
          · have g3 : ((s[k].toNat : Int) == 34) = true := by rw [h34]; rfl
            have h128 : s[k].toNat < 128 := by rw [h34]; decide
            clear h34
            have hE2 := hidF (Esc.snocEsc hE.out s[k] h128 hnc.out)
            rw [← take_more s k hlt] at hE2
            have hql2 := hidF (show (q ++ [92, s[k]]).length ≤ 2 * (k + 1) by simp; omega)
            have hcat := hidF (show mkB (34 :: q) ++ ⟨#[92]⟩ ++ s.extract k (k + 1) = mkB (34 :: (q ++ [92, s[k]])) by
              rw [hone.out, show (⟨#[92]⟩ : ByteArray) = mkB [92] from rfl, add_mkB, add_mkB]; simp)
            clear hE hone hnc
            go_wp2_with fail
            go_roundw
            case rel => exact ⟨k + 1, q ++ [92, s[k]], hlt, by go_num, by rw [hcat.out], hE2.out, hql2.out, trivial⟩
            case measure => simp [intOf]; omega
          have g3 : ((s[k].toNat : Int) == 34) = false := beq_eq_false_iff_ne.2 (fun e => h34 (UInt8.toNat_inj.1 (by have : (34 : UInt8).toNat = 34 := rfl; omega)))
          by_cases h92 : s[k] = 92
          · have g4 : ((s[k].toNat : Int) == 92) = true := by rw [h92]; rfl
            have h128 : s[k].toNat < 128 := by rw [h92]; decide
            clear h34 h92
            have hE2 := hidF (Esc.snocEsc hE.out s[k] h128 hnc.out)
            rw [← take_more s k hlt] at hE2
            have hql2 := hidF (show (q ++ [92, s[k]]).length ≤ 2 * (k + 1) by simp; omega)
            have hcat := hidF (show mkB (34 :: q) ++ ⟨#[92]⟩ ++ s.extract k (k + 1) = mkB (34 :: (q ++ [92, s[k]])) by
              rw [hone.out, show (⟨#[92]⟩ : ByteArray) = mkB [92] from rfl, add_mkB, add_mkB]; simp)
            clear hE hone hnc
            go_wp2_with fail
            go_roundw
            case rel => exact ⟨k + 1, q ++ [92, s[k]], hlt, by go_num, by rw [hcat.out], hE2.out, hql2.out, trivial⟩
            case measure => simp [intOf]; omega
          have g4 : ((s[k].toNat : Int) == 92) = false := beq_eq_false_iff_ne.2 (fun e => h92 (UInt8.toNat_inj.1 (by have : (92 : UInt8).toNat = 92 := rfl; omega)))
          by_cases h128 : s[k].toNat < 128
          · have g5 : (s[k].toNat : Int) < 128 := by omega
            by_cases hkl : k < len
            · have g6 : (k : Int) < (len : Int) := by omega
              obtain ⟨b, off, zk, rfl, hzk, hcell⟩ := Hrow.out.get k hkl
              clear hzk
              by_cases hodd : zk.tmod 2 = 0
              · have g7 : (zk.tmod 2 != 0) = false := by rw [hodd]; rfl
                clear h128
                have hE2 := hidF (Esc.snoc hE.out s[k] h34 h92 hnc.out)
                rw [← take_more s k hlt] at hE2
                have hql2 := hidF (show (q ++ [s[k]]).length ≤ 2 * (k + 1) by simp; omega)
                have hcat := hidF (show mkB (34 :: q) ++ s.extract k (k + 1) = mkB (34 :: (q ++ [s[k]])) by
                  rw [hone.out, add_mkB]; simp)
                clear hE hone hnc h34 h92
                go_wp2_with fail
                go_roundw
                case rel => exact ⟨k + 1, q ++ [s[k]], hlt, by go_num, by rw [hcat.out], hE2.out, hql2.out, trivial⟩
                case measure => simp [intOf]; omega
              · have g7 : (zk.tmod 2 != 0) = true := bne_iff_ne.2 hodd
                clear h34 h92
                have hE2 := hidF (Esc.snocEsc hE.out s[k] h128 hnc.out)
                rw [← take_more s k hlt] at hE2
                have hql2 := hidF (show (q ++ [92, s[k]]).length ≤ 2 * (k + 1) by simp; omega)
                have hcat := hidF (show mkB (34 :: q) ++ ⟨#[92]⟩ ++ s.extract k (k + 1) = mkB (34 :: (q ++ [92, s[k]])) by
                  rw [hone.out, show (⟨#[92]⟩ : ByteArray) = mkB [92] from rfl, add_mkB, add_mkB]; simp)
                clear hE hone hnc
                go_wp2_with fail
                go_roundw
                case rel => exact ⟨k + 1, q ++ [92, s[k]], hlt, by go_num, by rw [hcat.out], hE2.out, hql2.out, trivial⟩
                case measure => simp [intOf]; omega
            · have g6 : ¬ (k : Int) < (len : Int) := by omega
              clear h128 hkl
              have hE2 := hidF (Esc.snoc hE.out s[k] h34 h92 hnc.out)
              rw [← take_more s k hlt] at hE2
              have hql2 := hidF (show (q ++ [s[k]]).length ≤ 2 * (k + 1) by simp; omega)
              have hcat := hidF (show mkB (34 :: q) ++ s.extract k (k + 1) = mkB (34 :: (q ++ [s[k]])) by
                rw [hone.out, add_mkB]; simp)
              clear hE hone hnc h34 h92
              go_wp2_with fail
              go_roundw
              case rel => exact ⟨k + 1, q ++ [s[k]], hlt, by go_num, by rw [hcat.out], hE2.out, hql2.out, trivial⟩
              case measure => simp [intOf]; omega
          · have g5 : ¬ (s[k].toNat : Int) < 128 := by omega
            clear h128
            have hE2 := hidF (Esc.snoc hE.out s[k] h34 h92 hnc.out)
            rw [← take_more s k hlt] at hE2
            have hql2 := hidF (show (q ++ [s[k]]).length ≤ 2 * (k + 1) by simp; omega)
            have hcat := hidF (show mkB (34 :: q) ++ s.extract k (k + 1) = mkB (34 :: (q ++ [s[k]])) by
              rw [hone.out, add_mkB]; simp)
            clear hE hone hnc h34 h92
            go_wp2_with fail
            go_roundw
            case rel => exact ⟨k + 1, q ++ [s[k]], hlt, by go_num, by rw [hcat.out], hE2.out, hql2.out, trivial⟩
            case measure => simp [intOf]; omega
        · have hz : ¬ (k : Int) < (s.size : Int) := by omega
          have n4 : ¬ 9223372036854775807 < (mkB (34 :: q)).size + 1 + t.size := by rw [size_mkB, List.length_cons]; omega
          have hks : k = s.size := by omega
          have hlist : (mkB (34 :: q) ++ ⟨#[34]⟩ ++ t).data.toList = 34 :: (q ++ 34 :: t.data.toList) := by
            rw [append_list, append_list, mkB_list]; simp
          have hEe : Esc s.data.toList q := by have := hE.out; rw [hks, size_of_list s, List.take_length] at this; exact this
          have hcall := hidF (implQuoted_any (mkB (34 :: q) ++ ⟨#[34]⟩ ++ t) s.data.toList q t.data.toList wr (by
            rw [size_of_list, hlist]; simp; omega) hlist hEe Hv.out (utf8_below hT hb2))
          rw [list_mkB, list_mkB] at hcall
          clear hlist hEe hE hks
          go_wp2_with fail
          refine hcall.out.mono ?_
          rintro e w4 ⟨rfl, hb4⟩
          have hb5 := hb2.trans (hb4.mono hb2.size)
          go_wp2_with fail
          go_ret
          exact ⟨by simp, hb5⟩

theorem laidOut : laidOutB Tryd.prog = true := by kernel_rfl

set_option maxRecDepth 100000 in
theorem lifted (os : Os) (started : os.Started) (H : Type) (enc : TypeId × Value → H) :
    ReturnsInHanded {} Tryd.checked os 3 .any (fun w args => (Rows.fnQuotedIsTakenSpec.pre enc Tryd.prog Tryd.f3 Rows.fnQuotedIsTakenRow.domain false w args ∧ laidMetH Tryd.prog laid2 w) ∧ sizedMet enc Tryd.prog Tryd.f3 (OpenSpec.ofChange Rows.fnQuotedIsTakenSpec) false w args)
      (Rows.fnQuotedIsTakenSpec.post enc Tryd.prog Tryd.f3 false true false false) := by
  refine returnsInHanded_of_change_and (C := Tryd.checked) (X := fun w _ => laidMetH Tryd.prog laid2 w) (fun _ _ _ hh h => h.of_heap hh) own started (by kernel_rfl) Tryd.func3
    (ChangeSpec.witness_shaped (enc := enc) (C := Tryd.checked) (os := os) (X := fun w _ => laidMetH Tryd.prog laid2 w) false (World.laidAll Tryd.prog os laid2) #[.string ByteArray.empty, .slice none 0 0, .string ByteArray.empty] 8 (World.laidAll_os _ _ _)
      (World.shaped_of_ZipB (by kernel_rfl) (by kernel_rfl)) (by kernel_rfl) (by kernel_rfl) (by kernel_rfl) (door_met os _)) ?_
  intro W base args ds gs before hval0 hW hc _ hL _
  have hval : ∀ (j : Nat) t v, Tryd.f3.params[j]? = some t → args[j]? = some v → Value.okWide Tryd.prog W .any base t v := hval0
  have hW' := hW
  obtain ⟨p, q, hA0, hV, rfl, hfz, hnd⟩ := hW
  have hA : DataW.TrodAll enc Tryd.prog W 0 (fun _ => true) true Tryd.f3.params.toList args.toList ds p := hA0
  rw [Tryd.params3] at hA hval
  obtain ⟨v0, vs0, d0, ds0, p0, q0, hargs, rfl, rfl, h0, r0⟩ := trodAll_cons hA
  obtain ⟨v1, vs1, d1, ds1, p1, q1, rfl, rfl, rfl, h1, r1⟩ := trodAll_cons r0
  obtain ⟨v2, vs2, d2, ds2, p2, q2, rfl, rfl, rfl, h2, r2⟩ := trodAll_cons r1
  obtain ⟨rfl, rfl, rfl⟩ := trodAll_nil r2
  obtain rfl : args = #[v0, v1, v2] := by cases args; simp_all
  obtain ⟨rfl, rfl⟩ := trodVars_none hV
  obtain ⟨a0, rfl, rfl, rfl, w0⟩ := open_string Tryd.underlying9 (hval 0 9 v0 rfl rfl) h0
  obtain ⟨a1, l1, c1, rfl⟩ := okWide_slice Tryd.underlying22 (hval 1 22 v1 rfl rfl)
  have k1 := h1
  have lt1 : ∀ x ∈ p1, x.block < W.heap.size := by obtain ⟨m, hm⟩ := k1; exact DataW.trod_lt m _ _ _ hm
  obtain ⟨zs1, g1⟩ : ∃ zs, IntRow W a1 l1 c1 zs := by
    obtain ⟨fuel, hf⟩ := h1
    rcases open_ints Tryd.underlying22 Tryd.underlying3 (by kernel_rfl) hf with ⟨hcs, _⟩ | ⟨x, l, c, zs, hcs, _, hl, hm, hz, _, hcell, hws⟩
    · simp [Value.cells] at hcs
      obtain ⟨rfl, rfl, rfl⟩ := hcs
      exact ⟨[], intRow_nil _ _⟩
    · simp [Value.cells] at hcs
      obtain ⟨rfl, rfl, rfl⟩ := hcs
      exact ⟨_, intRow_some W _ _ _ zs hl hm (by simpa using hz) hcell⟩
  obtain ⟨a2, rfl, rfl, rfl, w2⟩ := open_string Tryd.underlying9 (hval 2 9 v2 rfl rfl) h2
  clear hA0 hval0
  refine (walk a0 a1 l1 c1 zs1 a2 W w0 g1 w2 (tabs_of hL)).mono fun e W' ⟨he, bel⟩ => ?_
  subst he
  exact ⟨_, rfl, _, _, _, [], _, [], hW', trodAll_mk1 (shut_bool Tryd.underlying4 _), (trodAll_cons_mk (shut_string Tryd.underlying9 w0) (trodAll_cons_mk (Below.trod laidOut (by kernel_rfl) (of_decide_eq_true (by kernel_rfl)) k1 bel lt1) (trodAll_cons_mk (shut_string Tryd.underlying9 w2) trodAll_mk0))), rfl, bel.frame _, fun h => by cases h⟩

theorem over : Rows.FnQuotedIsTakenSaid :=
  OpenClaim.holds_of_wide 3 Tryd.f3 rfl rfl rfl rfl rfl rfl rfl ⟨rfl, rfl, rfl, rfl, rfl⟩ rfl rfl rfl rfl rfl (by kernel_rfl) Tryd.func3 (by kernel_rfl)
    (of_decide_eq_true (by kernel_rfl)) (by unfold Func.isWrapper; first | (rw [if_pos (by decide +kernel)]; kernel_rfl) | (rw [if_neg (by decide +kernel)]; exact ⟨rfl, rfl⟩))
    (fun os started H enc _ => lifted os started H enc)

theorem proved : Rows.FnQuotedIsTakenCardSaid :=
  Claim7.holds_tied_plain_at .later [] [.data, .pinned] true (true, "49803aad01502463156d53d16517f883d1b76e937c70554ffd4b0a76dd479f8c") false over (fun _ h => by cases h) (by kernel_rfl) (fun _ h => by cases h) fnQuotedIsTaken_row_tie rfl ⟨rfl, rfl⟩ (by kernel_rfl) rfl
    (fun f fn hf hfn => by
      obtain rfl : f = 3 := Option.some.inj ((show Tryd.prog.funcNamed "mailtexts/laws.FnQuotedIsTaken" = some 3 by kernel_rfl).symm.trans hf) |>.symm
      obtain rfl : fn = Tryd.f3 := (Option.some.inj (Tryd.func3.symm.trans hfn)).symm
      exact ⟨by kernel_rfl, fun j t ht => by
        rw [Tryd.params3] at ht
        have hm := Array.mem_of_getElem? ht
        have hall : (([9, 22, 9] : List TypeId).all fun u => !Tryd.prog.wantsStandIn u) = true := by kernel_rfl
        exact (show Tryd.prog.wantsStandIn t = false by simpa using List.all_eq_true.1 hall t (by simpa using hm))⟩)
    (by kernel_rfl)
#print axioms proved
end Go.Proofs.YtmneehbhhofabaaDoor.fnQuotedIsTaken

