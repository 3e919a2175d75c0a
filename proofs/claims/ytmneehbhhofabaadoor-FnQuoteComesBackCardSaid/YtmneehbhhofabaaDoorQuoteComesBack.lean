/- FnQuoteComesBack is proved. -/
import Derived.Test.YtmneehbhhofabaaDoorQuotedUp
import Derived.Test.YtmneehbhhofabaaDoorQuote
import Derived.Test.YtmneehbhhofabaaDoorDotLaw
import Derived.Test.YtmneehbhhofabaaDoorLaid
import Derived.Test.YtmneehbhhofabaaDoorCards
import Derived.Test.YtmneehbhhofabaaDoorTie
import Derived.WalkKit
import Derived.ProofKit
import Derived.OpenShut
import Derived.ShutString
import Derived.ChangeOld
import Derived.Below
namespace Go.Proofs.YtmneehbhhofabaaDoor.fnQuoteComesBack
open Go.ChangeShapes Go.WideShapes Go.ChangeAt Go.RowKit
open Go.ChangeMaps (open_string shut_string)

set_option maxHeartbeats 4000000 in
set_option maxRecDepth 10000 in
theorem walk (s t : ByteArray) (w : World) (hs : s.size ≤ maxLen) (ht : t.size ≤ maxLen)
    (hT : Lib.Utf8Tabs 0 1 w) :
    Calls Tryd.prog 6 #[.string s, .string t] w fun e w' => e = .returned (.bool true) ∧ Below w.heap.size w w' := by
  unfold maxLen at hs ht
  by_cases hbig : 2147483647 < s.size
  · have e1 : (2147483647 : Int) < (s.size : Int) := by omega
    go_enter Tryd.func6, Tryd.ntmps6
    go_wp2_with fail
    go_ret
    exact ⟨rfl, Below.refl _ _⟩
  have e1 : ¬ (2147483647 : Int) < (s.size : Int) := by omega
  by_cases hbig2 : 2147483647 < t.size
  · have e3 : (2147483647 : Int) < (t.size : Int) := by omega
    go_enter Tryd.func6, Tryd.ntmps6
    go_wp2_with fail
    go_ret
    exact ⟨rfl, Below.refl _ _⟩
  have e3 : ¬ (2147483647 : Int) < (t.size : Int) := by omega
  clear hbig hbig2
  by_cases h4 : 4096 < s.size
  · have e4 : (4096 : Int) < (s.size : Int) := by omega
    go_enter Tryd.func6, Tryd.ntmps6
    go_wp2_with fail
    go_ret
    exact ⟨rfl, Below.refl _ _⟩
  have e4 : ¬ (4096 : Int) < (s.size : Int) := by omega
  by_cases h5 : 4096 < t.size
  · have e5 : (4096 : Int) < (t.size : Int) := by omega
    go_enter Tryd.func6, Tryd.ntmps6
    go_wp2_with fail
    go_ret
    exact ⟨rfl, Below.refl _ _⟩
  have e5 : ¬ (4096 : Int) < (t.size : Int) := by omega
  go_enter Tryd.func6, Tryd.ntmps6
  go_wp2_with fail
  refine (validString_any s w (by omega) hT).mono ?_
  rintro e w1 ⟨rfl, hb⟩
  cases hv : Lib.validD s.data.toList with
  | false =>
    clear hv
    go_wp2_with fail
    go_ret
    exact ⟨rfl, hb⟩
  | true =>
    have Hv := hidF hv
    clear hv
    go_wp2_with fail
    refine (validString_any t w1 (by omega) (utf8_below hT hb)).mono ?_
    rintro e w2 ⟨rfl, hb2⟩
    have hb2 := hb.trans (hb2.mono hb.size)
    cases hv : Lib.validD t.data.toList with
    | false =>
      clear hv
      go_wp2_with fail
      go_ret
      exact ⟨rfl, hb2⟩
    | true =>
      clear hv
      go_wp2_with fail
      go_loopw [37] (fun iv wr => ∃ k : Nat, k ≤ s.size ∧ iv = .int .i64 k ∧ Hid (∀ c ∈ s.data.toList.take k, noCtl c) ∧ wr = w2) (fun iv _ => s.size - (intOf iv).toNat)
      case atStart => exact ⟨0, Nat.zero_le _, rfl, hidF (fun c hc => by rw [List.take_zero] at hc; cases hc), rfl⟩
      case round =>
        obtain ⟨k, hk, rfl, hctl, rfl⟩ := hrel
        by_cases hlt : k < s.size
        · have hz : (k : Int) < (s.size : Int) := by omega
          by_cases h32 : s[k].toNat < 32
          · have g1 : (s[k].toNat : Int) < 32 := by omega
            go_wp2_with fail
            go_ret
            exact ⟨rfl, hb2⟩
          have g1 : ¬ (s[k].toNat : Int) < 32 := by omega
          by_cases h127 : s[k].toNat = 127
          · have g2 : ((s[k].toNat : Int) == 127) = true := beq_iff_eq.2 (by omega)
            go_wp2_with fail
            go_ret
            exact ⟨rfl, hb2⟩
          have g2 : ((s[k].toNat : Int) == 127) = false := beq_eq_false_iff_ne.2 (by omega)
          have hctl2 := hidF (show ∀ c ∈ s.data.toList.take (k + 1), noCtl c by
            rw [take_more s k hlt]
            intro c hc
            rcases List.mem_append.1 hc with h | h
            · exact hctl.out c h
            · have : c = s[k] := by simpa using h
              rw [this]; exact ⟨by omega, h127⟩)
          clear h32 h127 hctl
          go_wp2_with fail
          go_roundw
          case rel => exact ⟨k + 1, hlt, by go_num, hctl2.out, trivial⟩
          case measure => simp [intOf]; omega
        · have hz : ¬ (k : Int) < (s.size : Int) := by omega
          have hks : k = s.size := by omega
          have hctl2 := hctl.out
          rw [hks, size_of_list s, List.take_length] at hctl2
          have hq := hidF (implQuote_any s wr (by omega) Hv.out hctl2)
          clear hctl hctl2 hks
          go_wp2_with fail
          refine hq.out.mono ?_
          rintro e w3 ⟨q, rfl, hE, hql, hb3⟩
          have hb3 := hb2.trans (hb3.mono hb2.size)
          have n4 : ¬ 9223372036854775807 < (mkB (34 :: (q ++ [34]))).size + t.size := by rw [size_mkB]; simp; omega
          have hlist : (mkB (34 :: (q ++ [34])) ++ t).data.toList = 34 :: (q ++ 34 :: t.data.toList) := by
            rw [append_list, mkB_list]; simp
          have hcall := hidF (implQuoted_any (mkB (34 :: (q ++ [34])) ++ t) s.data.toList q t.data.toList w3 (by
            rw [size_of_list, hlist]; simp; omega) hlist hE Hv.out (utf8_below hT hb3))
          rw [list_mkB, list_mkB] at hcall
          clear hlist hE hq
          go_wp2_with fail
          refine hcall.out.mono ?_
          rintro e w4 ⟨rfl, hb4⟩
          have hb5 := hb3.trans (hb4.mono hb3.size)
          go_wp2_with fail
          go_ret
          exact ⟨by simp, hb5⟩

set_option maxRecDepth 100000 in
theorem lifted (os : Os) (started : os.Started) (H : Type) (enc : TypeId × Value → H) :
    ReturnsInHanded {} Tryd.checked os 6 .any (fun w args => (Rows.fnQuoteComesBackSpec.pre enc Tryd.prog Tryd.f6 Rows.fnQuoteComesBackRow.domain false w args ∧ laidMetH Tryd.prog laid2 w) ∧ sizedMet enc Tryd.prog Tryd.f6 (OpenSpec.ofChange Rows.fnQuoteComesBackSpec) false w args)
      (Rows.fnQuoteComesBackSpec.post enc Tryd.prog Tryd.f6 false true false false) := by
  refine returnsInHanded_of_change_and (C := Tryd.checked) (X := fun w _ => laidMetH Tryd.prog laid2 w) (fun _ _ _ hh h => h.of_heap hh) own started (by kernel_rfl) Tryd.func6
    (ChangeSpec.witness_shaped (enc := enc) (C := Tryd.checked) (os := os) (X := fun w _ => laidMetH Tryd.prog laid2 w) false (World.laidAll Tryd.prog os laid2) #[.string ByteArray.empty, .string ByteArray.empty] 8 (World.laidAll_os _ _ _)
      (World.shaped_of_ZipB (by kernel_rfl) (by kernel_rfl)) (by kernel_rfl) (by kernel_rfl) (by kernel_rfl) (door_met os _)) ?_
  intro W base args ds gs before hval0 hW hc _ hL _
  have hval : ∀ (j : Nat) t v, Tryd.f6.params[j]? = some t → args[j]? = some v → Value.okWide Tryd.prog W .any base t v := hval0
  have hW' := hW
  obtain ⟨p, q, hA0, hV, rfl, hfz, hnd⟩ := hW
  have hA : DataW.TrodAll enc Tryd.prog W 0 (fun _ => true) true Tryd.f6.params.toList args.toList ds p := hA0
  rw [Tryd.params6] at hA hval
  obtain ⟨v0, vs0, d0, ds0, p0, q0, hargs, rfl, rfl, h0, r0⟩ := trodAll_cons hA
  obtain ⟨v1, vs1, d1, ds1, p1, q1, rfl, rfl, rfl, h1, r1⟩ := trodAll_cons r0
  obtain ⟨rfl, rfl, rfl⟩ := trodAll_nil r1
  obtain rfl : args = #[v0, v1] := by cases args; simp_all
  obtain ⟨rfl, rfl⟩ := trodVars_none hV
  obtain ⟨a0, rfl, rfl, rfl, w0⟩ := open_string Tryd.underlying9 (hval 0 9 v0 rfl rfl) h0
  obtain ⟨a1, rfl, rfl, rfl, w1⟩ := open_string Tryd.underlying9 (hval 1 9 v1 rfl rfl) h1
  clear hA0 hval0
  refine (walk a0 a1 W w0 w1 (tabs_of hL)).mono fun e W' ⟨he, bel⟩ => ?_
  subst he
  exact ⟨_, rfl, _, _, _, [], _, [], hW', trodAll_mk1 (shut_bool Tryd.underlying4 _), (trodAll_cons_mk (shut_string Tryd.underlying9 w0) (trodAll_cons_mk (shut_string Tryd.underlying9 w1) trodAll_mk0)), rfl, bel.frame _, fun h => by cases h⟩

theorem over : Rows.FnQuoteComesBackSaid :=
  OpenClaim.holds_of_wide 6 Tryd.f6 rfl rfl rfl rfl rfl rfl rfl ⟨rfl, rfl, rfl, rfl, rfl⟩ rfl rfl rfl rfl rfl (by kernel_rfl) Tryd.func6 (by kernel_rfl)
    (of_decide_eq_true (by kernel_rfl)) (by unfold Func.isWrapper; first | (rw [if_pos (by decide +kernel)]; kernel_rfl) | (rw [if_neg (by decide +kernel)]; exact ⟨rfl, rfl⟩))
    (fun os started H enc _ => lifted os started H enc)

theorem proved : Rows.FnQuoteComesBackCardSaid :=
  Claim7.holds_tied_plain_at .later [] [.data, .pinned] true (true, "49803aad01502463156d53d16517f883d1b76e937c70554ffd4b0a76dd479f8c") false over (fun _ h => by cases h) (by kernel_rfl) (fun _ h => by cases h) fnQuoteComesBack_row_tie rfl ⟨rfl, rfl⟩ (by kernel_rfl) rfl
    (fun f fn hf hfn => by
      obtain rfl : f = 6 := Option.some.inj ((show Tryd.prog.funcNamed "mailtexts/laws.FnQuoteComesBack" = some 6 by kernel_rfl).symm.trans hf) |>.symm
      obtain rfl : fn = Tryd.f6 := (Option.some.inj (Tryd.func6.symm.trans hfn)).symm
      exact ⟨by kernel_rfl, fun j t ht => by
        rw [Tryd.params6] at ht
        have hm := Array.mem_of_getElem? ht
        have hall : (([9, 9] : List TypeId).all fun u => !Tryd.prog.wantsStandIn u) = true := by kernel_rfl
        exact (show Tryd.prog.wantsStandIn t = false by simpa using List.all_eq_true.1 hall t (by simpa using hm))⟩)
    (by kernel_rfl)
#print axioms proved
end Go.Proofs.YtmneehbhhofabaaDoor.fnQuoteComesBack

