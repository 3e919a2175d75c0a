/- FnAtomIsTaken: the walk. -/
import Derived.Test.YtmneehbhhofabaaDoorAtomLaw
import Derived.Test.YtmneehbhhofabaaDoorLaid
import Derived.Test.YtmneehbhhofabaaDoorCards
import Derived.Test.YtmneehbhhofabaaDoorTie
import Derived.WalkKit
import Derived.ProofKit
import Derived.OpenShut
import Derived.ShutString
import Derived.ChangeOld
import Derived.Below
namespace Go.Proofs.YtmneehbhhofabaaDoor.fnAtomIsTaken
open Go.ChangeShapes Go.WideShapes Go.ChangeAt Go.RowKit
open Go.ChangeMaps (open_string shut_string)

set_option maxHeartbeats 2000000 in
theorem walk (s : ByteArray) (w : World) (hs : s.size ≤ maxLen) (hT : Lib.Utf8Tabs 0 1 w) :
    Calls Tryd.prog 4 #[.string s] w fun e w' => e = .returned (.bool true) ∧ Below w.heap.size w w' := by
  unfold maxLen at hs
  have Hsl := hidF (size_of_list s)
  by_cases hbig : 2147483647 < s.size
  · have e1 : (2147483647 : Int) < (s.size : Int) := by omega
    go_enter Tryd.func4, Tryd.ntmps4
    go_wp2_with fail
    go_ret
    exact ⟨rfl, Below.refl _ _⟩
  have e1 : ¬ (2147483647 : Int) < (s.size : Int) := by omega
  by_cases h4 : 4096 < s.size
  · have e2 : (4096 : Int) < (s.size : Int) := by omega
    go_enter Tryd.func4, Tryd.ntmps4
    go_wp2_with fail
    go_ret
    exact ⟨rfl, Below.refl _ _⟩
  have e2 : ¬ (4096 : Int) < (s.size : Int) := by omega
  clear hbig
  go_enter Tryd.func4, Tryd.ntmps4
  go_wp2_with fail
  refine (validString_any s w (by omega) hT).mono ?_
  rintro e w1 ⟨rfl, hb⟩
  cases hv : Lib.validD s.data.toList with
  | false =>
    clear hv
    go_wp2_with fail
    go_ret
    exact ⟨rfl, hb⟩
  | true =>
    have Hv := hidF hv
    clear hv
    go_wp2_with fail
    go_loopw [3] (fun iv wr => ∃ k : Nat, k ≤ s.size ∧ iv = .int .i64 k ∧ Below w.heap.size w wr ∧ Hid (runLen false s.data.toList = k + runLen false (s.data.toList.drop k))) (fun iv _ => s.size - (intOf iv).toNat)
    case atStart => exact ⟨0, Nat.zero_le _, rfl, hb, by rw [List.drop_zero, Nat.zero_add]; rfl⟩
    case round =>
      obtain ⟨k, hk, rfl, hbr, hrun⟩ := hrel
      by_cases hlt : k < s.size
      · have hz : (k : Int) < (s.size : Int) := by omega
        have hdr := hidF (drop_cons s k hlt)
        have hat := hidF (specIsAtom_any s[k] wr)
        go_wp2_with fail
        refine hat.out.mono ?_
        rintro e w2 ⟨rfl, hb2⟩
        clear hat
        have hbr := hbr.trans (hb2.mono hbr.size)
        cases hc : atomC s[k] with
        | true =>
          have hr2 := hidF (show runLen false s.data.toList = k + 1 + runLen false (s.data.toList.drop (k + 1)) by
            rw [hrun.out, hdr.out]
            show k + (if okC false s[k] then runLen false (s.data.toList.drop (k + 1)) + 1 else 0) = _
            rw [if_pos (show okC false s[k] = true from hc)]; omega)
          clear hc
          go_wp2_with fail
          go_roundw
          case rel => exact ⟨k + 1, hlt, by go_num, hbr, hr2.out⟩
          case measure => simp [intOf]; omega
        | false =>
          have Hrl := hidF (show runLen false s.data.toList = k by
            rw [hrun.out, hdr.out]
            show k + (if okC false s[k] then runLen false (s.data.toList.drop (k + 1)) + 1 else 0) = _
            rw [if_neg (show ¬ okC false s[k] = true by show ¬ atomC s[k] = true; rw [hc]; simp)]; omega)
          clear hc hdr
          go_wp2_with fail
          refine (implAtom_any s false false w2 (by omega) Hv.out (utf8_below hT hbr)).mono ?_
          rintro e w3 ⟨hb3, hpost⟩
          have hb4 := hbr.trans (hb3.mono hbr.size)
          by_cases hk0 : k = 0
          · have e0 : ((k : Int) == 0) = true := beq_iff_eq.2 (by omega)
            rcases hpost with ⟨hres, rfl⟩ | ⟨hres, x, y, rfl⟩
            · rw [atomRes_plain, Hrl.out, hk0] at hres
              simp at hres
            · clear hres hk0
              go_wp2_with fail
              go_ret
              exact ⟨rfl, hb4⟩
          · have e0 : ((k : Int) == 0) = false := beq_eq_false_iff_ne.2 (by omega)
            rcases hpost with ⟨hres, rfl⟩ | ⟨hres, x, y, rfl⟩
            · rw [Hrl.out]
              clear hres hk0
              have q1 : ((mkB (s.data.toList.take k)).toList == (s.extract 0 k).toList) = true := by rw [take_mkB]; exact beq_self_eq_true _
              have q2 : ((mkB (s.data.toList.drop k)).toList == (s.extract k s.size).toList) = true := by rw [from_mkB]; exact beq_self_eq_true _
              go_wp2_with fail
              go_ret
              exact ⟨by simp, hb4⟩
            · rw [atomRes_plain, Hrl.out] at hres
              exact absurd hres (by simp; omega)
      · have hz : ¬ (k : Int) < (s.size : Int) := by omega
        have Hrl := hidF (show runLen false s.data.toList = k by
          rw [hrun.out, drop_end s k hlt]; rfl)
        go_wp2_with fail
        refine (implAtom_any s false false wr (by omega) Hv.out (utf8_below hT hbr)).mono ?_
        rintro e w3 ⟨hb3, hpost⟩
        have hb4 := hbr.trans (hb3.mono hbr.size)
        by_cases hk0 : k = 0
        · have e0 : ((k : Int) == 0) = true := beq_iff_eq.2 (by omega)
          rcases hpost with ⟨hres, rfl⟩ | ⟨hres, x, y, rfl⟩
          · rw [atomRes_plain, Hrl.out, hk0] at hres
            simp at hres
          · clear hres hk0
            go_wp2_with fail
            go_ret
            exact ⟨rfl, hb4⟩
        · have e0 : ((k : Int) == 0) = false := beq_eq_false_iff_ne.2 (by omega)
          rcases hpost with ⟨hres, rfl⟩ | ⟨hres, x, y, rfl⟩
          · rw [Hrl.out]
            clear hres hk0
            have q1 : ((mkB (s.data.toList.take k)).toList == (s.extract 0 k).toList) = true := by rw [take_mkB]; exact beq_self_eq_true _
            have q2 : ((mkB (s.data.toList.drop k)).toList == (s.extract k s.size).toList) = true := by rw [from_mkB]; exact beq_self_eq_true _
            go_wp2_with fail
            go_ret
            exact ⟨by simp, hb4⟩
          · rw [atomRes_plain, Hrl.out] at hres
            exact absurd hres (by simp; omega)


set_option maxRecDepth 100000 in
theorem lifted (os : Os) (started : os.Started) (H : Type) (enc : TypeId × Value → H) :
    ReturnsInHanded {} Tryd.checked os 4 .any (fun w args => (Rows.fnAtomIsTakenSpec.pre enc Tryd.prog Tryd.f4 Rows.fnAtomIsTakenRow.domain false w args ∧ laidMetH Tryd.prog laid2 w) ∧ sizedMet enc Tryd.prog Tryd.f4 (OpenSpec.ofChange Rows.fnAtomIsTakenSpec) false w args)
      (Rows.fnAtomIsTakenSpec.post enc Tryd.prog Tryd.f4 false true false false) := by
  refine returnsInHanded_of_change_and (C := Tryd.checked) (X := fun w _ => laidMetH Tryd.prog laid2 w) (fun _ _ _ hh h => h.of_heap hh) own started (by kernel_rfl) Tryd.func4
    (ChangeSpec.witness_shaped (enc := enc) (C := Tryd.checked) (os := os) (X := fun w _ => laidMetH Tryd.prog laid2 w) false (World.laidAll Tryd.prog os laid2) #[.string ByteArray.empty] 8 (World.laidAll_os _ _ _)
      (World.shaped_of_ZipB (by kernel_rfl) (by kernel_rfl)) (by kernel_rfl) (by kernel_rfl) (by kernel_rfl) (door_met os _)) ?_
  intro W base args ds gs before hval0 hW hc _ hL _
  have hval : ∀ (j : Nat) t v, Tryd.f4.params[j]? = some t → args[j]? = some v → Value.okWide Tryd.prog W .any base t v := hval0
  have hW' := hW
  obtain ⟨p, q, hA0, hV, rfl, hfz, hnd⟩ := hW
  have hA : DataW.TrodAll enc Tryd.prog W 0 (fun _ => true) true Tryd.f4.params.toList args.toList ds p := hA0
  rw [Tryd.params4] at hA hval
  obtain ⟨v0, vs0, d0, ds0, p0, q0, hargs, rfl, rfl, h0, r0⟩ := trodAll_cons hA
  obtain ⟨rfl, rfl, rfl⟩ := trodAll_nil r0
  obtain rfl : args = #[v0] := by cases args; simp_all
  obtain ⟨rfl, rfl⟩ := trodVars_none hV
  obtain ⟨a0, rfl, rfl, rfl, w0⟩ := open_string Tryd.underlying9 (hval 0 9 v0 rfl rfl) h0
  clear hA0 hval0
  refine (walk a0 W w0 (tabs_of hL)).mono fun e W' ⟨he, bel⟩ => ?_
  subst he
  exact ⟨_, rfl, _, _, _, [], _, [], hW', trodAll_mk1 (shut_bool Tryd.underlying4 _), (trodAll_cons_mk (shut_string Tryd.underlying9 w0) trodAll_mk0), rfl, bel.frame _, fun h => by cases h⟩

theorem over : Rows.FnAtomIsTakenSaid :=
  OpenClaim.holds_of_wide 4 Tryd.f4 rfl rfl rfl rfl rfl rfl rfl ⟨rfl, rfl, rfl, rfl, rfl⟩ rfl rfl rfl rfl rfl (by kernel_rfl) Tryd.func4 (by kernel_rfl)
    (of_decide_eq_true (by kernel_rfl)) (by unfold Func.isWrapper; first | (rw [if_pos (by decide +kernel)]; kernel_rfl) | (rw [if_neg (by decide +kernel)]; exact ⟨rfl, rfl⟩))
    (fun os started H enc _ => lifted os started H enc)

theorem proved : Rows.FnAtomIsTakenCardSaid :=
  Claim7.holds_tied_plain_at .later [] [.data, .pinned] true (true, "49803aad01502463156d53d16517f883d1b76e937c70554ffd4b0a76dd479f8c") false over (fun _ h => by cases h) (by kernel_rfl) (fun _ h => by cases h) fnAtomIsTaken_row_tie rfl ⟨rfl, rfl⟩ (by kernel_rfl) rfl
    (fun f fn hf hfn => by
      obtain rfl : f = 4 := Option.some.inj ((show Tryd.prog.funcNamed "mailtexts/laws.FnAtomIsTaken" = some 4 by kernel_rfl).symm.trans hf) |>.symm
      obtain rfl : fn = Tryd.f4 := (Option.some.inj (Tryd.func4.symm.trans hfn)).symm
      exact ⟨by kernel_rfl, fun j t ht => by
        rw [Tryd.params4] at ht
        have hm : t ∈ [9] := by simpa using Array.mem_of_getElem? ht
        have hall : ([9].all fun u => !Tryd.prog.wantsStandIn u) = true := by kernel_rfl
        exact (show Tryd.prog.wantsStandIn t = false by simpa using List.all_eq_true.1 hall t hm)⟩)
    (by kernel_rfl)
#print axioms proved
end Go.Proofs.YtmneehbhhofabaaDoor.fnAtomIsTaken
