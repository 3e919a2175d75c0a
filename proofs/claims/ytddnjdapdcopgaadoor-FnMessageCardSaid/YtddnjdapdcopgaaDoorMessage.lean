/- FnMessage is proved: whatever bytes come in, what is a message by the reference is read as its fields and its body, and a header's line without a colon is an error. CONDITION: the two errors io.EOF and bufio.ErrBufferFull (with six others that are listed) read as their texts when the call begins; the card ties them to the program's text. -/
import Derived.Test.YtddnjdapdcopgaaDoorMessageW
import Derived.Test.YtddnjdapdcopgaaDoorSent
import Derived.WalkKit
import Derived.ProofKit
import Derived.OpenShut
import Derived.ShutString
import Derived.ChangeOld
import Derived.Below
namespace Go.Proofs.YtddnjdapdcopgaaDoor.fnMessage
open Go.ChangeShapes Go.WideShapes Go.ChangeAt Go.RowKit
open Go.ChangeMaps (open_string shut_string)

theorem laidOut : laidOutB Tryd.prog = true := by kernel_rfl

theorem own : ownKnob Tryd.prog.godebug = none := by kernel_rfl
theorem sent {W : World} (h : laidMetH Tryd.prog Rows.fnMessageRow.laid W) : ∃ eof full, Sent2 eof full W := by
  rw [MakeChecks.laidMetH_plain _ _ _ (by kernel_rfl)] at h
  have h1 := laidMet.filter (fun x => x.1 == "io.EOF" || x.1 == "bufio.ErrBufferFull") h
  have e : Rows.fnMessageRow.laid.filter (fun x => x.1 == "io.EOF" || x.1 == "bufio.ErrBufferFull") = laid2 := by kernel_rfl
  rw [e] at h1
  exact sent_of h1

theorem door_met (os : Os) (args : Array Value) : laidMetH Tryd.prog Rows.fnMessageRow.laid ((World.laidAll Tryd.prog os Rows.fnMessageRow.laid).forCall (fun _ _ => 0) ⟨#[], args, []⟩).memory := by
  rw [MakeChecks.laidMetH_plain _ _ _ (by kernel_rfl)]
  exact laidMet_laidAll _ (by kernel_rfl) (by kernel_rfl)

set_option maxRecDepth 100000 in
theorem lifted (os : Os) (started : os.Started) (H : Type) (enc : TypeId × Value → H) :
    ReturnsInHanded {} Tryd.checked os 3 .any (fun w args => (Rows.fnMessageSpec.pre enc Tryd.prog Tryd.f3 Rows.fnMessageRow.domain false w args ∧ laidMetH Tryd.prog Rows.fnMessageRow.laid w) ∧ sizedMet enc Tryd.prog Tryd.f3 (OpenSpec.ofChange Rows.fnMessageSpec) false w args)
      (Rows.fnMessageSpec.post enc Tryd.prog Tryd.f3 false true false false) := by
  refine returnsInHanded_of_change_and (C := Tryd.checked) (X := fun w _ => laidMetH Tryd.prog Rows.fnMessageRow.laid w) (fun _ _ _ hh h => h.of_heap hh) own started (by kernel_rfl) Tryd.func3
    (ChangeSpec.witness_shaped (enc := enc) (C := Tryd.checked) (os := os) (X := fun w _ => laidMetH Tryd.prog Rows.fnMessageRow.laid w) false (World.laidAll Tryd.prog os Rows.fnMessageRow.laid) #[.slice none 0 0] 8 (World.laidAll_os _ _ _)
      (World.shaped_of_ZipB (by kernel_rfl) (by kernel_rfl)) (by kernel_rfl) (by kernel_rfl) (by kernel_rfl) (door_met os _)) ?_
  intro W base args ds gs before hval0 hW hc _ hL _
  have hval : ∀ (j : Nat) t v, Tryd.f3.params[j]? = some t → args[j]? = some v → Value.okWide Tryd.prog W .any base t v := hval0
  have hW' := hW
  obtain ⟨p, q, hA0, hV, rfl, hfz, hnd⟩ := hW
  have hA : DataW.TrodAll enc Tryd.prog W 0 (fun _ => true) true Tryd.f3.params.toList args.toList ds p := hA0
  rw [Tryd.params3] at hA hval
  obtain ⟨v0, vs0, d0, ds0, p0, q0, hargs, rfl, rfl, h0, r0⟩ := trodAll_cons hA
  obtain ⟨rfl, rfl, rfl⟩ := trodAll_nil r0
  obtain rfl : args = #[v0] := by cases args; simp_all
  obtain ⟨rfl, rfl⟩ := trodVars_none hV
  obtain ⟨a0, l0, c0, rfl⟩ := okWide_slice Tryd.underlying22 (hval 0 22 v0 rfl rfl)
  have k0 := h0
  have lt0 : ∀ x ∈ p0, x.block < W.heap.size := by obtain ⟨m, hm⟩ := k0; exact DataW.trod_lt m _ _ _ hm
  obtain ⟨z0, g0, n0⟩ : ∃ l, ArgB (.slice a0 l0 c0) l W ∧ l0 = l.length := by
    obtain ⟨fuel, hf⟩ := h0
    rcases open_ints Tryd.underlying22 Tryd.underlying5 (by kernel_rfl) hf with ⟨hcs, _⟩ | ⟨x, l, c, zs, hcs, _, hl, hm, hz, _, hcell, hws⟩
    · simp [Value.cells] at hcs
      obtain ⟨rfl, rfl, rfl⟩ := hcs
      exact ⟨[], .inl ⟨0, 0, rfl, rfl⟩, rfl⟩
    · simp [Value.cells] at hcs
      obtain ⟨rfl, rfl, rfl⟩ := hcs
      exact argB_some W _ _ _ zs hl (by simpa using hz) hcell hws
  clear hA0 hval0
  obtain ⟨eof, full, hS⟩ := sent hL
  refine (walk (.slice a0 l0 c0) z0 eof full W hS g0 ⟨_, _, _, rfl, n0⟩).mono fun e W' ⟨he, hO⟩ => ?_
  have bel : Below W.heap.size W W' := hO.below (fun _ h => by cases h) (Nat.le_refl _)
  subst he
  exact ⟨_, rfl, _, _, _, [], _, [], hW', trodAll_mk1 (shut_bool Tryd.underlying4 _), (trodAll_cons_mk (Below.trod laidOut (by kernel_rfl) (of_decide_eq_true (by kernel_rfl)) k0 bel lt0) trodAll_mk0), rfl, bel.frame _, fun h => by cases h⟩

theorem over : Rows.FnMessageSaid :=
  OpenClaim.holds_of_wide 3 Tryd.f3 rfl rfl rfl rfl rfl rfl rfl ⟨rfl, rfl, rfl, rfl, rfl⟩ rfl rfl rfl rfl rfl (by kernel_rfl) Tryd.func3 (by kernel_rfl)
    (of_decide_eq_true (by kernel_rfl)) (by unfold Func.isWrapper; first | (rw [if_pos (by decide +kernel)]; kernel_rfl) | (rw [if_neg (by decide +kernel)]; exact ⟨rfl, rfl⟩))
    (fun os started H enc _ => lifted os started H enc)

theorem proved : Rows.FnMessageCardSaid :=
  Claim7.holds_tied_plain_at .later [] [.sentinel, .sentinel, .sentinel, .sentinel, .sentinel, .sentinel, .sentinel, .sentinel] true (true, "9cdbb75af064ae82bde7e6f3c8014823058ca7c3b6372e8d5d510e6bbd4896e0") true over (fun _ h => by cases h) (by kernel_rfl) (fun _ h => by cases h) fnMessage_row_tie rfl ⟨rfl, rfl⟩ (by kernel_rfl) rfl
    (fun f fn hf hfn => by
      obtain rfl : f = 3 := Option.some.inj ((show Tryd.prog.funcNamed "mailtexts/laws.FnMessage" = some 3 by kernel_rfl).symm.trans hf) |>.symm
      obtain rfl : fn = Tryd.f3 := (Option.some.inj (Tryd.func3.symm.trans hfn)).symm
      exact ⟨by kernel_rfl, fun j t ht => by
        rw [Tryd.params3] at ht
        have hm := Array.mem_of_getElem? ht
        have hall : (([22] : List TypeId).all fun u => !Tryd.prog.wantsStandIn u) = true := by kernel_rfl
        exact (show Tryd.prog.wantsStandIn t = false by simpa using List.all_eq_true.1 hall t (by simpa using hm))⟩)
    (by kernel_rfl)
#print axioms proved
end Go.Proofs.YtddnjdapdcopgaaDoor.fnMessage

