/- FnEncodedIsWords is proved: what is encoded of a text of UTF-8 is the text itself if it is plain, and otherwise encoded words that mean it; for both ways of encoding and every text. -/
import Derived.Test.YtbpoecfbcmdeeaaDoorEncJ
import Derived.Test.YtbpoecfbcmdeeaaDoorHead
import Derived.Test.YtbpoecfbcmdeeaaDoorShelf
import Derived.Lib.LaidU8T
import Derived.LaidMore
import Derived.Lay
import Derived.SevenTiedAt
import Derived.Stop.Joined
import Derived.Test.YtbpoecfbcmdeeaaDoorCards
import Derived.Test.YtbpoecfbcmdeeaaDoorTie
import Derived.WalkKit
import Derived.ProofKit
import Derived.OpenShut
import Derived.ShutString
import Derived.ChangeOld
import Derived.Below
namespace Go.Proofs.YtbpoecfbcmdeeaaDoor.fnEncodedIsWords
open Go.ChangeShapes Go.WideShapes Go.ChangeAt Go.RowKit
open Go.ChangeMaps (open_string shut_string)

theorem headL_join {x : UInt8} {enc : List UInt8 → List UInt8} {cs : List (List UInt8)} {t : List UInt8} (hne : cs ≠ []) (h : ∀ ch ∈ cs, WordOf x enc ch) (ht : cs.flatten = t) : headL (joinL x enc cs) = some t := by
  unfold headL
  rw [if_pos (List.all_eq_true.2 fun c hc => by have := joinL_ok x enc cs h c hc; simpa [okH] using this)]
  rw [specL_words x enc cs [] false hne h (.inl rfl), ht]

/-- Words: their text is that which the reference reads. -/
def WordsR (text : List UInt8) (w : World) (e : Ending) (w' : World) : Prop := Below w.heap.size w w' ∧ ∃ r, e = .returned (.string r) ∧ r.size ≤ 100000 ∧ headL r.data.toList = some text
theorem wordsR_of {x : UInt8} {enc : List UInt8 → List UInt8} {text : List UInt8} {w w' : World} {e : Ending} (h : WordsDone x enc text w e w') : WordsR text w e w' := by
  obtain ⟨hb, cs, h1, h2, h3, h4, rfl⟩ := h
  exact ⟨hb, _, rfl, by rw [size_mkB]; exact h4, by rw [mkB_list]; exact headL_join h1 h2 h3⟩

set_option maxHeartbeats 2000000 in
set_option maxRecDepth 10000 in
theorem walk (b : Bool) (s : ByteArray) (w : World) (hs : s.size ≤ maxLen) (hT : Lib.Utf8Tabs 0 1 w) :
    Calls Tryd.prog 3 #[.bool b, .string s] w fun e w' => e = .returned (.bool true) ∧ Below w.heap.size w w' := by
  unfold maxLen at hs
  by_cases hbig : 2147483647 < s.size
  · have e1 : (2147483647 : Int) < (s.size : Int) := by omega
    go_enter Tryd.func3, Tryd.ntmps3
    go_wp2_with fail
    go_ret
    exact ⟨rfl, Below.refl _ _⟩
  have e1 : ¬ (2147483647 : Int) < (s.size : Int) := by omega
  have hvs := hidF (validString_any s w (by omega) hT)
  clear hbig
  cases hv : Lib.validD s.data.toList with
  | false =>
    rw [hv] at hvs
    clear hv
    go_enter Tryd.func3, Tryd.ntmps3
    go_wp2_with fail
    refine hvs.out.mono ?_
    rintro e w1 ⟨rfl, hb⟩
    clear hvs
    go_wp2_with fail
    go_ret
    exact ⟨rfl, hb⟩
  | true =>
    rw [hv] at hvs
    have Hv := hidF hv
    clear hv
    by_cases h4 : 4096 < s.size
    · have e2 : (4096 : Int) < (s.size : Int) := by omega
      go_enter Tryd.func3, Tryd.ntmps3
      go_wp2_with fail
      refine hvs.out.mono ?_
      rintro e w1 ⟨rfl, hb⟩
      clear hvs
      go_wp2_with fail
      go_ret
      exact ⟨rfl, hb⟩
    have e2 : ¬ (4096 : Int) < (s.size : Int) := by omega
    have hwd := hidF (fun w1 (hb : Below w.heap.size w w1) => implWord_any b s w1 (utf8_below hT hb) Hv.out (by omega))
    have hpl := hidF (fun w1 => lawPlain_any s w1 (by omega))
    have HT := hidF hT
    have q1 : (s.toList == s.toList) = true := beq_self_eq_true _
    clear h4 hT
    by_cases hp : plainL s.data.toList = true
    · have HP := hidF hp
      clear hp
      go_enter Tryd.func3, Tryd.ntmps3
      go_wp2_with fail
      refine hvs.out.mono ?_
      rintro e w1 ⟨rfl, hb⟩
      clear hvs
      go_wp2_with fail
      refine (hwd.out w1 hb).mono ?_
      rintro e w2 he
      unfold Encoded at he
      rw [if_pos HP.out, list_mkB] at he
      obtain ⟨hb2, rfl⟩ := he
      have hb2 := hb.trans (hb2.mono hb.size)
      have hpl2 := hidF (hpl.out w2)
      rw [HP.out] at hpl2
      clear hwd hpl hb
      go_wp2_with fail
      refine hpl2.out.mono ?_
      rintro e w3 ⟨rfl, rfl⟩
      clear hpl2
      go_wp2_with fail
      go_ret
      exact ⟨by simp, hb2⟩
    · have hp2 : plainL s.data.toList = false := by simpa using hp
      have HP := hidF hp
      have HP2 := hidF hp2
      clear hp hp2
      go_enter Tryd.func3, Tryd.ntmps3
      go_wp2_with fail
      refine hvs.out.mono ?_
      rintro e w1 ⟨rfl, hb⟩
      clear hvs
      go_wp2_with fail
      refine (hwd.out w1 hb).mono ?_
      rintro e w2 he
      have hr : WordsR s.data.toList w1 e w2 := by
        unfold Encoded at he
        rw [if_neg HP.out] at he
        cases b
        · exact wordsR_of he
        · exact wordsR_of he
      obtain ⟨hb2, r, rfl, hrs, hrh⟩ := hr
      have hb2 := hb.trans (hb2.mono hb.size)
      have hpl2 := hidF (hpl.out w2)
      rw [HP2.out] at hpl2
      have hhd := hidF (header_any r w2 (by omega) (utf8_below HT.out hb2))
      have Hrh := hidF hrh
      clear hwd hpl hb he hrh hrs
      go_wp2_with fail
      refine hpl2.out.mono ?_
      rintro e w3 ⟨rfl, rfl⟩
      clear hpl2
      go_wp2_with fail
      refine hhd.out.mono ?_
      rintro e w4 ⟨hb4, he⟩
      rw [Hrh.out] at he
      have he2 : e = goodOut s.data.toList := he
      unfold goodOut at he2
      rw [list_mkB] at he2
      subst he2
      have hb4 := hb2.trans (hb4.mono hb2.size)
      clear he hhd Hrh
      go_wp2_with fail
      go_ret
      exact ⟨by simp, hb4⟩

theorem own : ownKnob Tryd.prog.godebug = none := by kernel_rfl
theorem firstIs : Rows.laid_unicode_utf8_first = Lib.firstData := by kernel_rfl
theorem acceptIs : (Rows.laid_unicode_utf8_acceptRanges : DataW Unit) = Lib.acceptData := by kernel_rfl

theorem tabs_of {W : World} (h : laidMetH Tryd.prog Rows.fnEncodedIsWordsRow.laid W) : Lib.Utf8Tabs 0 1 W := by
  rw [MakeChecks.laidMetH_plain _ _ _ (by kernel_rfl)] at h
  have h1 := Lib.laidMet.reads h (n := "unicode/utf8.acceptRanges") (List.mem_of_getElem? (show Rows.fnEncodedIsWordsRow.laid[0]? = some ("unicode/utf8.acceptRanges", Rows.laid_unicode_utf8_acceptRanges) from rfl))
  have h2 := Lib.laidMet.reads h (n := "unicode/utf8.first") (List.mem_of_getElem? (show Rows.fnEncodedIsWordsRow.laid[4]? = some ("unicode/utf8.first", Rows.laid_unicode_utf8_first) from rfl))
  rw [acceptIs] at h1
  rw [firstIs] at h2
  exact utf8Tabs_of_readsT (U8Types.of196 Tryd.laysValid) ⟨by kernel_rfl, by kernel_rfl, by kernel_rfl, by kernel_rfl, by kernel_rfl, by kernel_rfl, by kernel_rfl⟩ h2 h1

theorem door_met (os : Os) (args : Array Value) : laidMetH Tryd.prog Rows.fnEncodedIsWordsRow.laid ((World.laidAll Tryd.prog os Rows.fnEncodedIsWordsRow.laid).forCall (fun _ _ => 0) ⟨#[], args, []⟩).memory := by
  rw [MakeChecks.laidMetH_plain _ _ _ (by kernel_rfl)]
  exact laidMet_laidAll _ (by kernel_rfl) (by kernel_rfl)

set_option maxRecDepth 100000 in
theorem lifted (os : Os) (started : os.Started) (H : Type) (enc : TypeId × Value → H) :
    ReturnsInHanded {} Tryd.checked os 3 .any (fun w args => (Rows.fnEncodedIsWordsSpec.pre enc Tryd.prog Tryd.f3 Rows.fnEncodedIsWordsRow.domain false w args ∧ laidMetH Tryd.prog Rows.fnEncodedIsWordsRow.laid w) ∧ sizedMet enc Tryd.prog Tryd.f3 (OpenSpec.ofChange Rows.fnEncodedIsWordsSpec) false w args)
      (Rows.fnEncodedIsWordsSpec.post enc Tryd.prog Tryd.f3 false true false false) := by
  refine returnsInHanded_of_change_and (C := Tryd.checked) (X := fun w _ => laidMetH Tryd.prog Rows.fnEncodedIsWordsRow.laid w) (fun _ _ _ hh h => h.of_heap hh) own started (by kernel_rfl) Tryd.func3
    (ChangeSpec.witness_shaped (enc := enc) (C := Tryd.checked) (os := os) (X := fun w _ => laidMetH Tryd.prog Rows.fnEncodedIsWordsRow.laid w) false (World.laidAll Tryd.prog os Rows.fnEncodedIsWordsRow.laid) #[.bool false, .string ByteArray.empty] 8 (World.laidAll_os _ _ _)
      (World.shaped_of_ZipB (by kernel_rfl) (by kernel_rfl)) (by kernel_rfl) (by kernel_rfl) (by kernel_rfl) (door_met os _)) ?_
  intro W base args ds gs before hval0 hW hc _ hL _
  have hval : ∀ (j : Nat) t v, Tryd.f3.params[j]? = some t → args[j]? = some v → Value.okWide Tryd.prog W .any base t v := hval0
  have hW' := hW
  obtain ⟨p, q, hA0, hV, rfl, hfz, hnd⟩ := hW
  have hA : DataW.TrodAll enc Tryd.prog W 0 (fun _ => true) true Tryd.f3.params.toList args.toList ds p := hA0
  rw [Tryd.params3] at hA hval
  obtain ⟨v0, vs0, d0, ds0, p0, q0, hargs, rfl, rfl, h0, r0⟩ := trodAll_cons hA
  obtain ⟨v1, vs1, d1, ds1, p1, q1, rfl, rfl, rfl, h1, r1⟩ := trodAll_cons r0
  obtain ⟨rfl, rfl, rfl⟩ := trodAll_nil r1
  obtain rfl : args = #[v0, v1] := by cases args; simp_all
  obtain ⟨rfl, rfl⟩ := trodVars_none hV
  obtain ⟨a0, rfl, rfl, rfl⟩ := open_bool Tryd.underlying4 (hval 0 4 v0 rfl rfl) h0
  obtain ⟨a1, rfl, rfl, rfl, w1⟩ := open_string Tryd.underlying9 (hval 1 9 v1 rfl rfl) h1
  clear hA0 hval0
  refine (walk a0 a1 W w1 (tabs_of hL)).mono fun e W' ⟨he, bel⟩ => ?_
  subst he
  exact ⟨_, rfl, _, _, _, [], _, [], hW', trodAll_mk1 (shut_bool Tryd.underlying4 _), (trodAll_cons_mk (shut_bool Tryd.underlying4 _) (trodAll_cons_mk (shut_string Tryd.underlying9 w1) trodAll_mk0)), rfl, bel.frame _, fun h => by cases h⟩

theorem over : Rows.FnEncodedIsWordsSaid :=
  OpenClaim.holds_of_wide 3 Tryd.f3 rfl rfl rfl rfl rfl rfl rfl ⟨rfl, rfl, rfl, rfl, rfl⟩ rfl rfl rfl rfl rfl (by kernel_rfl) Tryd.func3 (by kernel_rfl)
    (of_decide_eq_true (by kernel_rfl)) (by unfold Func.isWrapper; first | (rw [if_pos (by decide +kernel)]; kernel_rfl) | (rw [if_neg (by decide +kernel)]; exact ⟨rfl, rfl⟩))
    (fun os started H enc _ => lifted os started H enc)

theorem proved : Rows.FnEncodedIsWordsCardSaid :=
  Claim7.holds_tied_plain_at .later [] [.data, .data, .data, .pinned, .pinned] true (true, "b1a51ab77acdfac25995ed1ad7ba50ab3b24497728bfd85d4440d2da52687153") true over (fun _ h => by cases h) (by kernel_rfl) (fun _ h => by cases h) fnEncodedIsWords_row_tie rfl ⟨rfl, rfl⟩ (by kernel_rfl) rfl
    (fun f fn hf hfn => by
      obtain rfl : f = 3 := Option.some.inj ((show Tryd.prog.funcNamed "mailtexts/laws.FnEncodedIsWords" = some 3 by kernel_rfl).symm.trans hf) |>.symm
      obtain rfl : fn = Tryd.f3 := (Option.some.inj (Tryd.func3.symm.trans hfn)).symm
      exact ⟨by kernel_rfl, fun j t ht => by
        rw [Tryd.params3] at ht
        have hm := Array.mem_of_getElem? ht
        have hall : (([4, 9] : List TypeId).all fun u => !Tryd.prog.wantsStandIn u) = true := by kernel_rfl
        exact (show Tryd.prog.wantsStandIn t = false by simpa using List.all_eq_true.1 hall t (by simpa using hm))⟩)
    (by kernel_rfl)
#print axioms proved
end Go.Proofs.YtbpoecfbcmdeeaaDoor.fnEncodedIsWords

