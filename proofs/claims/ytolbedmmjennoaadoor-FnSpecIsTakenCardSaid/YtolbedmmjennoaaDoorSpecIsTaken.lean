/- FnSpecIsTaken is proved. -/
import Derived.Test.YtolbedmmjennoaaDoorSpec
import Derived.Test.YtolbedmmjennoaaDoorMade
import Derived.Test.YtolbedmmjennoaaDoorShelf
import Derived.Lib.LaidU8T
import Derived.LaidMore
import Derived.Lay
import Derived.SevenTiedAt
import Derived.Stop.Joined
import Derived.Test.YtolbedmmjennoaaDoorCards
import Derived.Test.YtolbedmmjennoaaDoorTie
import Derived.WalkKit
import Derived.ProofKit
import Derived.OpenShut
import Derived.ShutString
import Derived.ChangeOld
import Derived.Below
namespace Go.Proofs.YtolbedmmjennoaaDoor.fnSpecIsTaken
open Go.ChangeShapes Go.WideShapes Go.ChangeAt Go.RowKit
open Go.ChangeMaps (open_string shut_string)

theorem ends_of (t : ByteArray) (h0 : 0 < t.size) (h : t[0] = 62 ∨ t[0] = 44) : ends t.data.toList = true := by
  have := drop_cons t 0 h0
  rw [List.drop_zero] at this
  rw [this]
  rcases h with h | h <;> (rw [h]; rfl)

set_option maxHeartbeats 4000000 in
set_option maxRecDepth 10000 in
theorem walk (l d t : ByteArray) (w : World) (hl : l.size ≤ maxLen) (hd : d.size ≤ maxLen) (ht : t.size ≤ maxLen)
    (hT : Lib.Utf8Tabs 0 1 w) :
    Calls Tryd.prog 5 #[.string l, .string d, .string t] w fun e w' => e = .returned (.bool true) ∧ Below w.heap.size w w' := by
  unfold maxLen at hl hd ht
  by_cases hbig1 : 2147483647 < l.size
  · have e1 : (2147483647 : Int) < (l.size : Int) := by omega
    go_enter Tryd.func5, Tryd.ntmps5
    go_wp2_with fail
    go_ret
    exact ⟨rfl, Below.refl _ _⟩
  have e1 : ¬ (2147483647 : Int) < (l.size : Int) := by omega
  by_cases hbig2 : 2147483647 < d.size
  · have e2 : (2147483647 : Int) < (d.size : Int) := by omega
    go_enter Tryd.func5, Tryd.ntmps5
    go_wp2_with fail
    go_ret
    exact ⟨rfl, Below.refl _ _⟩
  have e2 : ¬ (2147483647 : Int) < (d.size : Int) := by omega
  by_cases hbig3 : 2147483647 < t.size
  · have e3 : (2147483647 : Int) < (t.size : Int) := by omega
    go_enter Tryd.func5, Tryd.ntmps5
    go_wp2_with fail
    go_ret
    exact ⟨rfl, Below.refl _ _⟩
  have e3 : ¬ (2147483647 : Int) < (t.size : Int) := by omega
  go_enter Tryd.func5, Tryd.ntmps5
  go_wp2_with fail
  refine (made_any ⟨#[]⟩ l d w (by decide) (by omega) (by omega) hT).mono ?_
  rintro e w1 ⟨hb, ⟨_, hdl, hdd, hsum, rfl⟩ | ⟨x, y, rfl⟩⟩
  · have Hl := hidF hdl
    have Hd := hidF hdd
    have hsum2 : l.size + d.size ≤ 4096 := by have : (⟨#[]⟩ : ByteArray).size = 0 := rfl; omega
    clear hdl hdd hsum
    have hRa := RAt.made w1 ⟨#[]⟩ (l ++ ⟨#[64]⟩ ++ d)
    have hbA := hb.alloc hb.size (.cells #[.string ⟨#[]⟩, .string (l ++ ⟨#[64]⟩ ++ d)] 23)
    have HRa := hidF hRa
    obtain ⟨ad, had⟩ : ∃ ad, ad = l ++ ⟨#[64]⟩ ++ d := ⟨_, rfl⟩
    have Had := hidF had
    rw [← had] at hRa hbA HRa ⊢
    clear had hRa
    by_cases h4 : 4096 < t.size
    · have e4 : (4096 : Int) < (t.size : Int) := by omega
      go_wp2_with fail
      go_ret
      exact ⟨rfl, hbA⟩
    have e4 : ¬ (4096 : Int) < (t.size : Int) := by omega
    go_wp2_with fail
    refine (validString_any t _ (by omega) (utf8_below hT hbA)).mono ?_
    rintro e w2 ⟨rfl, hb2⟩
    have hR2 := HRa.out.below hb2 HRa.out.lt
    have hb2 := hbA.trans (hb2.mono hbA.size)
    have c1 := hR2.cell1
    have HR2 := hidF hR2
    clear hR2 HRa
    cases hv : Lib.validD t.data.toList with
    | false =>
      clear hv
      go_wp2_with fail
      go_ret
      exact ⟨rfl, hb2⟩
    | true =>
      have Hv := hidF hv
      clear hv
      by_cases ht0 : 0 < t.size
      · have e5 : (0 : Int) < (t.size : Int) := by omega
        by_cases h62 : t[0] = 62
        · have g1 : ((t[0].toNat : Int) != 62) = false := by rw [h62]; rfl
          have Hz := hidF (ends_of t ht0 (.inl h62))
          clear h62
          have hcall := hidF (implSpec_any l d t (ad ++ t) (⟨#[64]⟩ ++ (d ++ t)) (d ++ t) w2 (by rw [Had.out]; simp only [ByteArray.append_assoc]) rfl rfl Hl.out Hd.out Hz.out Hv.out (by omega) (by omega) (by omega) (utf8_below hT hb2))
          have n4 : ¬ 9223372036854775807 < ad.size + t.size := (by rw [Had.out]; simp only [ByteArray.size_append]; have : (⟨#[64]⟩ : ByteArray).size = 1 := rfl; omega)
          rw [← Had.out] at hcall
          go_wp2_with fail
          refine hcall.out.mono ?_
          rintro e w3 ⟨rfl, hb3⟩
          have c2 := (HR2.out.below hb3 HR2.out.lt).cell1
          have hb4 := hb2.trans (hb3.mono hb2.size)
          go_wp2_with fail
          go_ret
          exact ⟨by simp, hb4⟩
        have g1 : ((t[0].toNat : Int) != 62) = true := bne_iff_ne.2 (fun e => h62 (UInt8.toNat_inj.1 (by have : (62 : UInt8).toNat = 62 := rfl; omega)))
        by_cases h44 : t[0] = 44
        · have g2 : ((t[0].toNat : Int) != 44) = false := by rw [h44]; rfl
          have Hz := hidF (ends_of t ht0 (.inr h44))
          clear h62 h44
          have hcall := hidF (implSpec_any l d t (ad ++ t) (⟨#[64]⟩ ++ (d ++ t)) (d ++ t) w2 (by rw [Had.out]; simp only [ByteArray.append_assoc]) rfl rfl Hl.out Hd.out Hz.out Hv.out (by omega) (by omega) (by omega) (utf8_below hT hb2))
          have n4 : ¬ 9223372036854775807 < ad.size + t.size := (by rw [Had.out]; simp only [ByteArray.size_append]; have : (⟨#[64]⟩ : ByteArray).size = 1 := rfl; omega)
          rw [← Had.out] at hcall
          go_wp2_with fail
          refine hcall.out.mono ?_
          rintro e w3 ⟨rfl, hb3⟩
          have c2 := (HR2.out.below hb3 HR2.out.lt).cell1
          have hb4 := hb2.trans (hb3.mono hb2.size)
          go_wp2_with fail
          go_ret
          exact ⟨by simp, hb4⟩
        have g2 : ((t[0].toNat : Int) != 44) = true := bne_iff_ne.2 (fun e => h44 (UInt8.toNat_inj.1 (by have : (44 : UInt8).toNat = 44 := rfl; omega)))
        go_wp2_with fail
        go_ret
        exact ⟨rfl, hb2⟩
      · have e5 : ¬ (0 : Int) < (t.size : Int) := by omega
        have Hz := hidF (show ends t.data.toList = true by
          have := drop_end t 0 ht0
          rw [List.drop_zero] at this
          rw [this]; rfl)
        have hcall := hidF (implSpec_any l d t (ad ++ t) (⟨#[64]⟩ ++ (d ++ t)) (d ++ t) w2 (by rw [Had.out]; simp only [ByteArray.append_assoc]) rfl rfl Hl.out Hd.out Hz.out Hv.out (by omega) (by omega) (by omega) (utf8_below hT hb2))
        have n4 : ¬ 9223372036854775807 < ad.size + t.size := (by rw [Had.out]; simp only [ByteArray.size_append]; have : (⟨#[64]⟩ : ByteArray).size = 1 := rfl; omega)
        rw [← Had.out] at hcall
        go_wp2_with fail
        refine hcall.out.mono ?_
        rintro e w3 ⟨rfl, hb3⟩
        have c2 := (HR2.out.below hb3 HR2.out.lt).cell1
        have hb4 := hb2.trans (hb3.mono hb2.size)
        go_wp2_with fail
        go_ret
        exact ⟨by simp, hb4⟩
  · go_wp2_with fail
    go_ret
    exact ⟨rfl, hb.alloc hb.size _⟩

theorem own : ownKnob Tryd.prog.godebug = none := by kernel_rfl
theorem firstIs : Rows.laid_unicode_utf8_first = Lib.firstData := by kernel_rfl
theorem acceptIs : (Rows.laid_unicode_utf8_acceptRanges : DataW Unit) = Lib.acceptData := by kernel_rfl

theorem tabs_of {W : World} (h : laidMetH Tryd.prog Rows.fnSpecIsTakenRow.laid W) : Lib.Utf8Tabs 0 1 W := by
  rw [MakeChecks.laidMetH_plain _ _ _ (by kernel_rfl)] at h
  have h1 := Lib.laidMet.reads h (n := "unicode/utf8.acceptRanges") (List.mem_of_getElem? (show Rows.fnSpecIsTakenRow.laid[0]? = some ("unicode/utf8.acceptRanges", Rows.laid_unicode_utf8_acceptRanges) from rfl))
  have h2 := Lib.laidMet.reads h (n := "unicode/utf8.first") (List.mem_of_getElem? (show Rows.fnSpecIsTakenRow.laid[4]? = some ("unicode/utf8.first", Rows.laid_unicode_utf8_first) from rfl))
  rw [acceptIs] at h1
  rw [firstIs] at h2
  exact utf8Tabs_of_readsT (U8Types.of196 Tryd.laysValid) ⟨by kernel_rfl, by kernel_rfl, by kernel_rfl, by kernel_rfl, by kernel_rfl, by kernel_rfl, by kernel_rfl⟩ h2 h1

theorem door_met (os : Os) (args : Array Value) : laidMetH Tryd.prog Rows.fnSpecIsTakenRow.laid ((World.laidAll Tryd.prog os Rows.fnSpecIsTakenRow.laid).forCall (fun _ _ => 0) ⟨#[], args, []⟩).memory := by
  rw [MakeChecks.laidMetH_plain _ _ _ (by kernel_rfl)]
  exact laidMet_laidAll _ (by kernel_rfl) (by kernel_rfl)

set_option maxRecDepth 100000 in
theorem lifted (os : Os) (started : os.Started) (H : Type) (enc : TypeId × Value → H) :
    ReturnsInHanded {} Tryd.checked os 5 .any (fun w args => (Rows.fnSpecIsTakenSpec.pre enc Tryd.prog Tryd.f5 Rows.fnSpecIsTakenRow.domain false w args ∧ laidMetH Tryd.prog Rows.fnSpecIsTakenRow.laid w) ∧ sizedMet enc Tryd.prog Tryd.f5 (OpenSpec.ofChange Rows.fnSpecIsTakenSpec) false w args)
      (Rows.fnSpecIsTakenSpec.post enc Tryd.prog Tryd.f5 false true false false) := by
  refine returnsInHanded_of_change_and (C := Tryd.checked) (X := fun w _ => laidMetH Tryd.prog Rows.fnSpecIsTakenRow.laid w) (fun _ _ _ hh h => h.of_heap hh) own started (by kernel_rfl) Tryd.func5
    (ChangeSpec.witness_shaped (enc := enc) (C := Tryd.checked) (os := os) (X := fun w _ => laidMetH Tryd.prog Rows.fnSpecIsTakenRow.laid w) false (World.laidAll Tryd.prog os Rows.fnSpecIsTakenRow.laid) #[.string ByteArray.empty, .string ByteArray.empty, .string ByteArray.empty] 8 (World.laidAll_os _ _ _)
      (World.shaped_of_ZipB (by kernel_rfl) (by kernel_rfl)) (by kernel_rfl) (by kernel_rfl) (by kernel_rfl) (door_met os _)) ?_
  intro W base args ds gs before hval0 hW hc _ hL _
  have hval : ∀ (j : Nat) t v, Tryd.f5.params[j]? = some t → args[j]? = some v → Value.okWide Tryd.prog W .any base t v := hval0
  have hW' := hW
  obtain ⟨p, q, hA0, hV, rfl, hfz, hnd⟩ := hW
  have hA : DataW.TrodAll enc Tryd.prog W 0 (fun _ => true) true Tryd.f5.params.toList args.toList ds p := hA0
  rw [Tryd.params5] at hA hval
  obtain ⟨v0, vs0, d0, ds0, p0, q0, hargs, rfl, rfl, h0, r0⟩ := trodAll_cons hA
  obtain ⟨v1, vs1, d1, ds1, p1, q1, rfl, rfl, rfl, h1, r1⟩ := trodAll_cons r0
  obtain ⟨v2, vs2, d2, ds2, p2, q2, rfl, rfl, rfl, h2, r2⟩ := trodAll_cons r1
  obtain ⟨rfl, rfl, rfl⟩ := trodAll_nil r2
  obtain rfl : args = #[v0, v1, v2] := by cases args; simp_all
  obtain ⟨rfl, rfl⟩ := trodVars_none hV
  obtain ⟨a0, rfl, rfl, rfl, w0⟩ := open_string Tryd.underlying9 (hval 0 9 v0 rfl rfl) h0
  obtain ⟨a1, rfl, rfl, rfl, w1⟩ := open_string Tryd.underlying9 (hval 1 9 v1 rfl rfl) h1
  obtain ⟨a2, rfl, rfl, rfl, w2⟩ := open_string Tryd.underlying9 (hval 2 9 v2 rfl rfl) h2
  clear hA0 hval0
  refine (walk a0 a1 a2 W w0 w1 w2 (tabs_of hL)).mono fun e W' ⟨he, bel⟩ => ?_
  subst he
  exact ⟨_, rfl, _, _, _, [], _, [], hW', trodAll_mk1 (shut_bool Tryd.underlying4 _), (trodAll_cons_mk (shut_string Tryd.underlying9 w0) (trodAll_cons_mk (shut_string Tryd.underlying9 w1) (trodAll_cons_mk (shut_string Tryd.underlying9 w2) trodAll_mk0))), rfl, bel.frame _, fun h => by cases h⟩

theorem over : Rows.FnSpecIsTakenSaid :=
  OpenClaim.holds_of_wide 5 Tryd.f5 rfl rfl rfl rfl rfl rfl rfl ⟨rfl, rfl, rfl, rfl, rfl⟩ rfl rfl rfl rfl rfl (by kernel_rfl) Tryd.func5 (by kernel_rfl)
    (of_decide_eq_true (by kernel_rfl)) (by unfold Func.isWrapper; first | (rw [if_pos (by decide +kernel)]; kernel_rfl) | (rw [if_neg (by decide +kernel)]; exact ⟨rfl, rfl⟩))
    (fun os started H enc _ => lifted os started H enc)

theorem proved : Rows.FnSpecIsTakenCardSaid :=
  Claim7.holds_tied_plain_at .later [] [.data, .called, .called, .zero, .pinned] true (true, "623653c3862542c578090f3ba4d206ab7e9ce16c1c165c77fcbdabf2ef7e2d24") false over (fun _ h => by cases h) (by kernel_rfl) (fun _ h => by cases h) fnSpecIsTaken_row_tie rfl ⟨rfl, rfl⟩ (by kernel_rfl) rfl
    (fun f fn hf hfn => by
      obtain rfl : f = 5 := Option.some.inj ((show Tryd.prog.funcNamed "mailtexts/laws.FnSpecIsTaken" = some 5 by kernel_rfl).symm.trans hf) |>.symm
      obtain rfl : fn = Tryd.f5 := (Option.some.inj (Tryd.func5.symm.trans hfn)).symm
      exact ⟨by kernel_rfl, fun j t ht => by
        rw [Tryd.params5] at ht
        have hm := Array.mem_of_getElem? ht
        have hall : (([9, 9, 9] : List TypeId).all fun u => !Tryd.prog.wantsStandIn u) = true := by kernel_rfl
        exact (show Tryd.prog.wantsStandIn t = false by simpa using List.all_eq_true.1 hall t (by simpa using hm))⟩)
    (by kernel_rfl)
#print axioms proved
end Go.Proofs.YtolbedmmjennoaaDoor.fnSpecIsTaken

