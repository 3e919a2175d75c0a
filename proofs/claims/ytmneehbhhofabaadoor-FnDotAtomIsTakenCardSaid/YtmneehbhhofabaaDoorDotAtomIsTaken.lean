/- FnDotAtomIsTaken is proved. -/
import Derived.Test.YtmneehbhhofabaaDoorDotLaw
import Derived.Test.YtmneehbhhofabaaDoorLaid
import Derived.Test.YtmneehbhhofabaaDoorCards
import Derived.Test.YtmneehbhhofabaaDoorTie
import Derived.WalkKit
import Derived.ProofKit
import Derived.OpenShut
import Derived.ShutString
import Derived.ChangeOld
import Derived.Below
namespace Go.Proofs.YtmneehbhhofabaaDoor.fnDotAtomIsTaken
open Go.ChangeShapes Go.WideShapes Go.ChangeAt Go.RowKit
open Go.ChangeMaps (open_string shut_string)

set_option maxHeartbeats 2000000 in
theorem walk (s t : ByteArray) (w : World) (hs : s.size ≤ maxLen) (ht : t.size ≤ maxLen) (hT : Lib.Utf8Tabs 0 1 w) :
    Calls Tryd.prog 5 #[.string s, .string t] w fun e w' => e = .returned (.bool true) ∧ Below w.heap.size w w' := by
  unfold maxLen at hs ht
  by_cases hbig : 2147483647 < s.size
  · have e1 : (2147483647 : Int) < (s.size : Int) := by omega
    go_enter Tryd.func5, Tryd.ntmps5
    go_wp2_with fail
    go_ret
    exact ⟨rfl, Below.refl _ _⟩
  have e1 : ¬ (2147483647 : Int) < (s.size : Int) := by omega
  by_cases hbig2 : 2147483647 < t.size
  · have e2 : (2147483647 : Int) < (t.size : Int) := by omega
    go_enter Tryd.func5, Tryd.ntmps5
    go_wp2_with fail
    go_ret
    exact ⟨rfl, Below.refl _ _⟩
  have e2 : ¬ (2147483647 : Int) < (t.size : Int) := by omega
  go_enter Tryd.func5, Tryd.ntmps5
  go_wp2_with fail
  refine (dotted_any s w (by omega)).mono ?_
  rintro e w1 ⟨rfl, hb⟩
  cases hd : dottedL s.data.toList with
  | false =>
    clear hd
    go_wp2_with fail
    go_ret
    exact ⟨rfl, hb⟩
  | true =>
    have Hd := hidF hd
    clear hd
    by_cases h4 : 4096 < s.size
    · have e3 : (4096 : Int) < (s.size : Int) := by omega
      go_wp2_with fail
      go_ret
      exact ⟨rfl, hb⟩
    have e3 : ¬ (4096 : Int) < (s.size : Int) := by omega
    by_cases h5 : 4096 < t.size
    · have e4 : (4096 : Int) < (t.size : Int) := by omega
      go_wp2_with fail
      go_ret
      exact ⟨rfl, hb⟩
    have e4 : ¬ (4096 : Int) < (t.size : Int) := by omega
    go_wp2_with fail
    refine (validString_any t w1 (by omega) (utf8_below hT hb)).mono ?_
    rintro e w2 ⟨rfl, hb2⟩
    have hb2 := hb.trans (hb2.mono hb.size)
    cases hv : Lib.validD t.data.toList with
    | false =>
      clear hv
      go_wp2_with fail
      go_ret
      exact ⟨rfl, hb2⟩
    | true =>
      have Hv := hidF hv
      clear hv
      by_cases ht0 : 0 < t.size
      · have e5 : (0 : Int) < (t.size : Int) := by omega
        have hdr := hidF (drop_cons t 0 ht0)
        have hat := hidF (specIsAtom_any t[0] w2)
        go_wp2_with fail
        refine hat.out.mono ?_
        rintro e w3 ⟨rfl, hb3⟩
        clear hat
        have hbr := hb2.trans (hb3.mono hb2.size)
        cases hc : atomC t[0] with
        | true =>
          clear hc
          go_wp2_with fail
          go_ret
          exact ⟨rfl, hbr⟩
        | false =>
          by_cases h46 : t[0] = 46
          · have g1 : ((t[0].toNat : Int) == 46) = true := by rw [h46]; rfl
            clear hc h46
            go_wp2_with fail
            go_ret
            exact ⟨rfl, hbr⟩
          · have g1 : ((t[0].toNat : Int) == 46) = false := beq_eq_false_iff_ne.2 (fun e => h46 (UInt8.toNat_inj.1 (by have : (46 : UInt8).toNat = 46 := rfl; omega)))
            have hends := hidF (show ends t.data.toList = true by
              have := hdr.out
              rw [List.drop_zero] at this
              rw [this]
              simp [ends, hc, h46])
            clear hc h46 hdr
            go_wp2_with fail
            refine (implAtom_any (s ++ t) true false w3 (by rw [ByteArray.size_append]; omega) (by rw [append_list]; exact dotted_valid _ _ Hd.out Hv.out) (utf8_below hT hbr)).mono ?_
            rintro e w4 ⟨hb3, hpost⟩
            have hb4 := hbr.trans (hb3.mono hbr.size)
            have hdres := dotted_res s t Hd.out hends.out
            rcases hpost with ⟨hres, rfl⟩ | ⟨hres, x, y, rfl⟩
            · rw [hdres.2.1, hdres.2.2]
              clear hres hdres
              go_wp2_with fail
              go_ret
              exact ⟨by simp, hb4⟩
            · rw [hdres.1] at hres
              cases hres
      · have e5 : ¬ (0 : Int) < (t.size : Int) := by omega
        have hends := hidF (show ends t.data.toList = true by
          have := drop_end t 0 ht0
          rw [List.drop_zero] at this
          rw [this]; rfl)
        have hbr := hb2
        go_wp2_with fail
        refine (implAtom_any (s ++ t) true false w2 (by rw [ByteArray.size_append]; omega) (by rw [append_list]; exact dotted_valid _ _ Hd.out Hv.out) (utf8_below hT hbr)).mono ?_
        rintro e w3 ⟨hb3, hpost⟩
        have hb4 := hbr.trans (hb3.mono hbr.size)
        have hdres := dotted_res s t Hd.out hends.out
        rcases hpost with ⟨hres, rfl⟩ | ⟨hres, x, y, rfl⟩
        · rw [hdres.2.1, hdres.2.2]
          clear hres hdres
          go_wp2_with fail
          go_ret
          exact ⟨by simp, hb4⟩
        · rw [hdres.1] at hres
          cases hres

set_option maxRecDepth 100000 in
theorem lifted (os : Os) (started : os.Started) (H : Type) (enc : TypeId × Value → H) :
    ReturnsInHanded {} Tryd.checked os 5 .any (fun w args => (Rows.fnDotAtomIsTakenSpec.pre enc Tryd.prog Tryd.f5 Rows.fnDotAtomIsTakenRow.domain false w args ∧ laidMetH Tryd.prog laid2 w) ∧ sizedMet enc Tryd.prog Tryd.f5 (OpenSpec.ofChange Rows.fnDotAtomIsTakenSpec) false w args)
      (Rows.fnDotAtomIsTakenSpec.post enc Tryd.prog Tryd.f5 false true false false) := by
  refine returnsInHanded_of_change_and (C := Tryd.checked) (X := fun w _ => laidMetH Tryd.prog laid2 w) (fun _ _ _ hh h => h.of_heap hh) own started (by kernel_rfl) Tryd.func5
    (ChangeSpec.witness_shaped (enc := enc) (C := Tryd.checked) (os := os) (X := fun w _ => laidMetH Tryd.prog laid2 w) false (World.laidAll Tryd.prog os laid2) #[.string ByteArray.empty, .string ByteArray.empty] 8 (World.laidAll_os _ _ _)
      (World.shaped_of_ZipB (by kernel_rfl) (by kernel_rfl)) (by kernel_rfl) (by kernel_rfl) (by kernel_rfl) (door_met os _)) ?_
  intro W base args ds gs before hval0 hW hc _ hL _
  have hval : ∀ (j : Nat) t v, Tryd.f5.params[j]? = some t → args[j]? = some v → Value.okWide Tryd.prog W .any base t v := hval0
  have hW' := hW
  obtain ⟨p, q, hA0, hV, rfl, hfz, hnd⟩ := hW
  have hA : DataW.TrodAll enc Tryd.prog W 0 (fun _ => true) true Tryd.f5.params.toList args.toList ds p := hA0
  rw [Tryd.params5] at hA hval
  obtain ⟨v0, vs0, d0, ds0, p0, q0, hargs, rfl, rfl, h0, r0⟩ := trodAll_cons hA
  obtain ⟨v1, vs1, d1, ds1, p1, q1, rfl, rfl, rfl, h1, r1⟩ := trodAll_cons r0
  obtain ⟨rfl, rfl, rfl⟩ := trodAll_nil r1
  obtain rfl : args = #[v0, v1] := by cases args; simp_all
  obtain ⟨rfl, rfl⟩ := trodVars_none hV
  obtain ⟨a0, rfl, rfl, rfl, w0⟩ := open_string Tryd.underlying9 (hval 0 9 v0 rfl rfl) h0
  obtain ⟨a1, rfl, rfl, rfl, w1⟩ := open_string Tryd.underlying9 (hval 1 9 v1 rfl rfl) h1
  clear hA0 hval0
  refine (walk a0 a1 W w0 w1 (tabs_of hL)).mono fun e W' ⟨he, bel⟩ => ?_
  subst he
  exact ⟨_, rfl, _, _, _, [], _, [], hW', trodAll_mk1 (shut_bool Tryd.underlying4 _), (trodAll_cons_mk (shut_string Tryd.underlying9 w0) (trodAll_cons_mk (shut_string Tryd.underlying9 w1) trodAll_mk0)), rfl, bel.frame _, fun h => by cases h⟩

theorem over : Rows.FnDotAtomIsTakenSaid :=
  OpenClaim.holds_of_wide 5 Tryd.f5 rfl rfl rfl rfl rfl rfl rfl ⟨rfl, rfl, rfl, rfl, rfl⟩ rfl rfl rfl rfl rfl (by kernel_rfl) Tryd.func5 (by kernel_rfl)
    (of_decide_eq_true (by kernel_rfl)) (by unfold Func.isWrapper; first | (rw [if_pos (by decide +kernel)]; kernel_rfl) | (rw [if_neg (by decide +kernel)]; exact ⟨rfl, rfl⟩))
    (fun os started H enc _ => lifted os started H enc)

theorem proved : Rows.FnDotAtomIsTakenCardSaid :=
  Claim7.holds_tied_plain_at .later [] [.data, .pinned] true (true, "49803aad01502463156d53d16517f883d1b76e937c70554ffd4b0a76dd479f8c") false over (fun _ h => by cases h) (by kernel_rfl) (fun _ h => by cases h) fnDotAtomIsTaken_row_tie rfl ⟨rfl, rfl⟩ (by kernel_rfl) rfl
    (fun f fn hf hfn => by
      obtain rfl : f = 5 := Option.some.inj ((show Tryd.prog.funcNamed "mailtexts/laws.FnDotAtomIsTaken" = some 5 by kernel_rfl).symm.trans hf) |>.symm
      obtain rfl : fn = Tryd.f5 := (Option.some.inj (Tryd.func5.symm.trans hfn)).symm
      exact ⟨by kernel_rfl, fun j t ht => by
        rw [Tryd.params5] at ht
        have hm := Array.mem_of_getElem? ht
        have hall : (([9, 9] : List TypeId).all fun u => !Tryd.prog.wantsStandIn u) = true := by kernel_rfl
        exact (show Tryd.prog.wantsStandIn t = false by simpa using List.all_eq_true.1 hall t (by simpa using hm))⟩)
    (by kernel_rfl)
#print axioms proved
end Go.Proofs.YtmneehbhhofabaaDoor.fnDotAtomIsTaken
