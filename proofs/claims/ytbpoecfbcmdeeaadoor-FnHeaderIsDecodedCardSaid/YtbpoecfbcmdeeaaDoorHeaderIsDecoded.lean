/- FnHeaderIsDecoded is proved: a text of words of which some are encoded is decoded to what RFC 2047 says; for every text. -/
import Derived.Test.YtbpoecfbcmdeeaaDoorHead
import Derived.Test.YtbpoecfbcmdeeaaDoorDHead
import Derived.Test.YtbpoecfbcmdeeaaDoorShelf
import Derived.Lib.LaidU8T
import Derived.LaidMore
import Derived.Lay
import Derived.SevenTiedAt
import Derived.Stop.Joined
import Derived.Test.YtbpoecfbcmdeeaaDoorCards
import Derived.Test.YtbpoecfbcmdeeaaDoorTie
import Derived.WalkKit
import Derived.ProofKit
import Derived.OpenShut
import Derived.ShutString
import Derived.ChangeOld
import Derived.Below
namespace Go.Proofs.YtbpoecfbcmdeeaaDoor.fnHeaderIsDecoded
open Go.ChangeShapes Go.WideShapes Go.ChangeAt Go.RowKit
open Go.ChangeMaps (open_string shut_string)

set_option maxHeartbeats 2000000 in
set_option maxRecDepth 10000 in
theorem walk (s : ByteArray) (w : World) (hs : s.size ≤ maxLen) (hT : Lib.Utf8Tabs 0 1 w) :
    Calls Tryd.prog 5 #[.string s] w fun e w' => e = .returned (.bool true) ∧ Below w.heap.size w w' := by
  unfold maxLen at hs
  by_cases hbig : 2147483647 < s.size
  · have e1 : (2147483647 : Int) < (s.size : Int) := by omega
    go_enter Tryd.func5, Tryd.ntmps5
    go_wp2_with fail
    go_ret
    exact ⟨rfl, Below.refl _ _⟩
  have e1 : ¬ (2147483647 : Int) < (s.size : Int) := by omega
  by_cases h4 : 4096 < s.size
  · have e2 : (4096 : Int) < (s.size : Int) := by omega
    go_enter Tryd.func5, Tryd.ntmps5
    go_wp2_with fail
    go_ret
    exact ⟨rfl, Below.refl _ _⟩
  have e2 : ¬ (4096 : Int) < (s.size : Int) := by omega
  have hdec := hidF (header_any s w (by omega) hT)
  clear hbig
  go_enter Tryd.func5, Tryd.ntmps5
  go_wp2_with fail
  refine hdec.out.mono ?_
  rintro e w1 ⟨hb, he⟩
  clear hdec
  cases hd : headL s.data.toList with
  | none =>
    rw [hd] at he
    have he2 : e = openOut := he
    unfold openOut at he2
    subst he2
    clear hd he
    go_wp2_with fail
    go_ret
    exact ⟨rfl, hb⟩
  | some t =>
    rw [hd] at he
    have he2 : e = goodOut t := he
    unfold goodOut at he2
    subst he2
    clear he
    have hsp : s.data.toList.all okH = true ∧ specL s.data.toList [] false = some t := by
      unfold headL at hd
      split at hd
      · rename_i h; exact ⟨h, hd⟩
      · cases hd
    have hcall := hidF (implHeader_any s t w1 (by omega) (fun c hc => by have := List.all_eq_true.1 hsp.1 c hc; simpa [okH] using this) hsp.2)
    clear hd hsp
    have q1 : ((mkB t).toList == (mkB t).toList) = true := beq_self_eq_true _
    go_wp2_with fail
    refine hcall.out.mono ?_
    rintro e w2 ⟨rfl, hb2⟩
    have hb3 := hb.trans (hb2.mono hb.size)
    clear hb2 hcall
    go_wp2_with fail
    go_ret
    exact ⟨by simp, hb3⟩

theorem own : ownKnob Tryd.prog.godebug = none := by kernel_rfl
theorem firstIs : Rows.laid_unicode_utf8_first = Lib.firstData := by kernel_rfl
theorem acceptIs : (Rows.laid_unicode_utf8_acceptRanges : DataW Unit) = Lib.acceptData := by kernel_rfl

theorem tabs_of {W : World} (h : laidMetH Tryd.prog Rows.fnHeaderIsDecodedRow.laid W) : Lib.Utf8Tabs 0 1 W := by
  rw [MakeChecks.laidMetH_plain _ _ _ (by kernel_rfl)] at h
  have h1 := Lib.laidMet.reads h (n := "unicode/utf8.acceptRanges") (List.mem_of_getElem? (show Rows.fnHeaderIsDecodedRow.laid[0]? = some ("unicode/utf8.acceptRanges", Rows.laid_unicode_utf8_acceptRanges) from rfl))
  have h2 := Lib.laidMet.reads h (n := "unicode/utf8.first") (List.mem_of_getElem? (show Rows.fnHeaderIsDecodedRow.laid[8]? = some ("unicode/utf8.first", Rows.laid_unicode_utf8_first) from rfl))
  rw [acceptIs] at h1
  rw [firstIs] at h2
  exact utf8Tabs_of_readsT (U8Types.of196 Tryd.laysValid) ⟨by kernel_rfl, by kernel_rfl, by kernel_rfl, by kernel_rfl, by kernel_rfl, by kernel_rfl, by kernel_rfl⟩ h2 h1

theorem door_met (os : Os) (args : Array Value) : laidMetH Tryd.prog Rows.fnHeaderIsDecodedRow.laid ((World.laidAll Tryd.prog os Rows.fnHeaderIsDecodedRow.laid).forCall (fun _ _ => 0) ⟨#[], args, []⟩).memory := by
  rw [MakeChecks.laidMetH_plain _ _ _ (by kernel_rfl)]
  exact laidMet_laidAll _ (by kernel_rfl) (by kernel_rfl)

set_option maxRecDepth 100000 in
theorem lifted (os : Os) (started : os.Started) (H : Type) (enc : TypeId × Value → H) :
    ReturnsInHanded {} Tryd.checked os 5 .any (fun w args => (Rows.fnHeaderIsDecodedSpec.pre enc Tryd.prog Tryd.f5 Rows.fnHeaderIsDecodedRow.domain false w args ∧ laidMetH Tryd.prog Rows.fnHeaderIsDecodedRow.laid w) ∧ sizedMet enc Tryd.prog Tryd.f5 (OpenSpec.ofChange Rows.fnHeaderIsDecodedSpec) false w args)
      (Rows.fnHeaderIsDecodedSpec.post enc Tryd.prog Tryd.f5 false true false false) := by
  refine returnsInHanded_of_change_and (C := Tryd.checked) (X := fun w _ => laidMetH Tryd.prog Rows.fnHeaderIsDecodedRow.laid w) (fun _ _ _ hh h => h.of_heap hh) own started (by kernel_rfl) Tryd.func5
    (ChangeSpec.witness_shaped (enc := enc) (C := Tryd.checked) (os := os) (X := fun w _ => laidMetH Tryd.prog Rows.fnHeaderIsDecodedRow.laid w) false (World.laidAll Tryd.prog os Rows.fnHeaderIsDecodedRow.laid) #[.string ByteArray.empty] 8 (World.laidAll_os _ _ _)
      (World.shaped_of_ZipB (by kernel_rfl) (by kernel_rfl)) (by kernel_rfl) (by kernel_rfl) (by kernel_rfl) (door_met os _)) ?_
  intro W base args ds gs before hval0 hW hc _ hL _
  have hval : ∀ (j : Nat) t v, Tryd.f5.params[j]? = some t → args[j]? = some v → Value.okWide Tryd.prog W .any base t v := hval0
  have hW' := hW
  obtain ⟨p, q, hA0, hV, rfl, hfz, hnd⟩ := hW
  have hA : DataW.TrodAll enc Tryd.prog W 0 (fun _ => true) true Tryd.f5.params.toList args.toList ds p := hA0
  rw [Tryd.params5] at hA hval
  obtain ⟨v0, vs0, d0, ds0, p0, q0, hargs, rfl, rfl, h0, r0⟩ := trodAll_cons hA
  obtain ⟨rfl, rfl, rfl⟩ := trodAll_nil r0
  obtain rfl : args = #[v0] := by cases args; simp_all
  obtain ⟨rfl, rfl⟩ := trodVars_none hV
  obtain ⟨a0, rfl, rfl, rfl, w0⟩ := open_string Tryd.underlying9 (hval 0 9 v0 rfl rfl) h0
  clear hA0 hval0
  refine (walk a0 W w0 (tabs_of hL)).mono fun e W' ⟨he, bel⟩ => ?_
  subst he
  exact ⟨_, rfl, _, _, _, [], _, [], hW', trodAll_mk1 (shut_bool Tryd.underlying4 _), (trodAll_cons_mk (shut_string Tryd.underlying9 w0) trodAll_mk0), rfl, bel.frame _, fun h => by cases h⟩

theorem over : Rows.FnHeaderIsDecodedSaid :=
  OpenClaim.holds_of_wide 5 Tryd.f5 rfl rfl rfl rfl rfl rfl rfl ⟨rfl, rfl, rfl, rfl, rfl⟩ rfl rfl rfl rfl rfl (by kernel_rfl) Tryd.func5 (by kernel_rfl)
    (of_decide_eq_true (by kernel_rfl)) (by unfold Func.isWrapper; first | (rw [if_pos (by decide +kernel)]; kernel_rfl) | (rw [if_neg (by decide +kernel)]; exact ⟨rfl, rfl⟩))
    (fun os started H enc _ => lifted os started H enc)

theorem proved : Rows.FnHeaderIsDecodedCardSaid :=
  Claim7.holds_tied_plain_at .later [] [.data, .sentinel, .sentinel, .sentinel, .data, .data, .sentinel, .pinned, .pinned] true (true, "b1a51ab77acdfac25995ed1ad7ba50ab3b24497728bfd85d4440d2da52687153") true over (fun _ h => by cases h) (by kernel_rfl) (fun _ h => by cases h) fnHeaderIsDecoded_row_tie rfl ⟨rfl, rfl⟩ (by kernel_rfl) rfl
    (fun f fn hf hfn => by
      obtain rfl : f = 5 := Option.some.inj ((show Tryd.prog.funcNamed "mailtexts/laws.FnHeaderIsDecoded" = some 5 by kernel_rfl).symm.trans hf) |>.symm
      obtain rfl : fn = Tryd.f5 := (Option.some.inj (Tryd.func5.symm.trans hfn)).symm
      exact ⟨by kernel_rfl, fun j t ht => by
        rw [Tryd.params5] at ht
        have hm := Array.mem_of_getElem? ht
        have hall : (([9] : List TypeId).all fun u => !Tryd.prog.wantsStandIn u) = true := by kernel_rfl
        exact (show Tryd.prog.wantsStandIn t = false by simpa using List.all_eq_true.1 hall t (by simpa using hm))⟩)
    (by kernel_rfl)
#print axioms proved
end Go.Proofs.YtbpoecfbcmdeeaaDoor.fnHeaderIsDecoded

