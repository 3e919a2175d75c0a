/- FnSpaceIsSkipped is proved: for every text the statement's function returns true (of a text of printable signs of ASCII and tabs the spaces, tabs and comments at its beginning are skipped as the reference skips them). No condition. -/
import Derived.Test.YtmneehbhhofabaaRows
import Derived.Test.YtmneehbhhofabaaSpace
import Derived.WalkKit
import Derived.ProofKit
import Derived.OpenShut
import Derived.ShutString
import Derived.ChangeOld
import Derived.Below
namespace Go.Proofs.Ytmneehbhhofabaa.fnSpaceIsSkipped
open Go.ChangeShapes Go.WideShapes Go.ChangeAt Go.RowKit
open Go.ChangeMaps (open_string shut_string)

theorem own : ownKnob Try.prog.godebug = none := by kernel_rfl

set_option maxHeartbeats 1000000 in
theorem walk (a0 : ByteArray) (w0 : a0.size ≤ maxLen) (w : World) :
    Calls Try.prog 3 #[.string a0] w fun e w' => e = .returned (.bool true) ∧ Below w.heap.size w w' := by
  unfold maxLen at w0
  by_cases hbig : 2147483647 < a0.size
  · have e1 : (2147483647 : Int) < (a0.size : Int) := by omega
    go_enter Try.func3, Try.ntmps3
    go_wp2_with fail
    go_ret
    exact ⟨rfl, Below.refl _ _⟩
  · have e1 : ¬ (2147483647 : Int) < (a0.size : Int) := by omega
    go_enter Try.func3, Try.ntmps3
    go_wp2_with fail
    refine (plain_any a0 w (by omega)).mono ?_
    rintro e w1 ⟨rfl, rfl⟩
    by_cases hpl : plainL a0.data.toList = true
    · rw [hpl]
      clear hpl
      by_cases h4 : 4096 < a0.size
      · have e2 : (4096 : Int) < (a0.size : Int) := by omega
        go_wp2_with fail
        go_ret
        exact ⟨rfl, Below.refl _ _⟩
      · have e2 : ¬ (4096 : Int) < (a0.size : Int) := by omega
        go_wp2_with fail
        refine (specSkip_any a0 w (by omega)).mono ?_
        rintro e w1 ⟨rfl, rfl⟩
        have hsk : ∃ r ok, skipF a0.data.toList 0 false = (r, ok) := ⟨_, _, rfl⟩
        obtain ⟨r, ok, hsk⟩ := hsk
        have hm := mailSkipSpace_any a0 w (by omega)
        rw [hsk] at hm ⊢
        have Hm := hidF hm
        clear hm hsk
        go_wp2_with fail
        refine Hm.out.mono ?_
        rintro e w1 ⟨t, rfl, ht, hb⟩
        cases ok with
        | false =>
          clear ht
          go_wp2_with fail
          go_ret
          exact ⟨rfl, hb⟩
        | true =>
          obtain rfl := ht rfl
          clear ht
          go_wp2_with fail
          go_ret
          exact ⟨rfl, hb⟩
    · have hpl' : plainL a0.data.toList = false := by simpa using hpl
      rw [hpl']
      clear hpl hpl'
      go_wp2_with fail
      go_ret
      exact ⟨rfl, Below.refl _ _⟩

set_option maxRecDepth 100000 in
theorem lifted (os : Os) (started : os.Started) (H : Type) (enc : TypeId × Value → H) :
    ReturnsInHanded {} Try.checked os 3 .any (Rows.fnSpaceIsSkippedSpec.pre6 enc Try.prog Try.f3 Rows.fnSpaceIsSkippedRow.domain false) (Rows.fnSpaceIsSkippedSpec.post enc Try.prog Try.f3 false true false false) := by
  refine returnsInHanded_of_change (C := Try.checked) own started (by kernel_rfl) Try.func3
    (ChangeSpec.witness6 (enc := enc) (C := Try.checked) false ⟨#[], #[.string ByteArray.empty], []⟩ 8 (by kernel_rfl) (by kernel_rfl) (by kernel_rfl) (by kernel_rfl)) ?_
  intro W base args ds gs before hval0 hW hcnd _
  have hval : ∀ (j : Nat) t v, Try.f3.params[j]? = some t → args[j]? = some v → Value.okWide Try.prog W .any base t v := hval0
  have hW' := hW
  obtain ⟨p, q, hA0, hV, rfl, hfz, hnd⟩ := hW
  have hA : DataW.TrodAll enc Try.prog W 0 (fun _ => true) true Try.f3.params.toList args.toList ds p := hA0
  rw [Try.params3] at hA hval
  obtain ⟨v0, vs0, d0, ds0, p0, q0, hargs, rfl, rfl, h0, r0⟩ := trodAll_cons hA
  obtain ⟨rfl, rfl, rfl⟩ := trodAll_nil r0
  obtain rfl : args = #[v0] := by cases args; simp_all
  obtain ⟨rfl, rfl⟩ := trodVars_none hV
  obtain ⟨a0, rfl, rfl, rfl, w0⟩ := open_string Try.underlying9 (hval 0 9 v0 rfl rfl) h0
  clear hA0 hval0
  refine (walk a0 w0 W).mono fun e W' ⟨he, bel⟩ => ?_
  subst he
  exact ⟨_, rfl, _, _, _, [], _, [], hW', trodAll_mk1 (shut_bool Try.underlying4 _), (trodAll_cons_mk (shut_string Try.underlying9 w0) trodAll_mk0), rfl, bel.frame _, fun h => by cases h⟩

theorem over : Rows.fnSpaceIsSkippedRow.holds Try.pinned (OpenSpec.ofChange Rows.fnSpaceIsSkippedSpec) :=
  OpenClaim.holds_of_wide 3 Try.f3 rfl rfl rfl rfl rfl rfl rfl ⟨rfl, rfl, rfl, rfl, rfl⟩ rfl rfl rfl rfl rfl (by kernel_rfl) Try.func3 (by kernel_rfl)
    (of_decide_eq_true (by kernel_rfl)) (by unfold Func.isWrapper; first | (rw [if_pos (by decide +kernel)]; kernel_rfl) | (rw [if_neg (by decide +kernel)]; exact ⟨rfl, rfl⟩))
    (fun os started H enc _ => lifted os started H enc)

theorem proved : Rows.FnSpaceIsSkippedSaid := over
#print axioms proved
end Go.Proofs.Ytmneehbhhofabaa.fnSpaceIsSkipped
