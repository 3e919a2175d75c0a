/- FnWrittenIsRead is proved: whatever fields are written line by line, with folds in any way, and a body behind an empty line, they are read as these fields and this body. CONDITION: the two errors io.EOF and bufio.ErrBufferFull (with six others that are listed) read as their texts when the call begins; the card ties them to the program's text. -/
import Derived.Test.YtddnjdapdcopgaaDoorWritten
import Derived.Test.YtddnjdapdcopgaaDoorSent
import Derived.WalkKit
import Derived.ProofKit
import Derived.OpenShut
import Derived.ShutString
import Derived.ChangeOld
import Derived.Below
namespace Go.Proofs.YtddnjdapdcopgaaDoor.fnWrittenIsRead
open Go.ChangeShapes Go.WideShapes Go.ChangeAt Go.RowKit
open Go.ChangeMaps (open_string shut_string)

theorem strRow_nil (w : World) (ao : Option Addr) : StrRow w ao 0 0 [] := .inl ⟨by omega, rfl, rfl, rfl⟩
theorem strRow_some (w : World) (x : Addr) (len cap : Nat) (ss : List ByteArray) (hl : len ≤ cap) (hm : cap ≤ maxLen) (hz : ss.length = cap) (hc : ∀ i, i < ss.length → w.cell? (x.add i) = some (.string (ss.getD i ByteArray.empty))) :
    StrRow w (some x) len cap (ss.take len) := by
  unfold maxLen at hm
  by_cases h0 : len = 0
  · subst h0; exact .inl ⟨by omega, rfl, rfl, rfl⟩
  · obtain ⟨b, off, spot⟩ := x
    have hc0 := hc 0 (by omega)
    have hspot : spot = none := by simpa [Addr.add] using World.cell?_spot hc0
    subst hspot
    have hadd : ∀ i, (⟨b, off, none⟩ : Addr).add i = ⟨b, off + i, none⟩ := fun i => by unfold Addr.add; split <;> simp_all
    refine .inr ⟨b, off, rfl, hl, by omega, by simp; omega, fun _ => ?_, fun i s hi => ?_⟩
    · rw [hadd] at hc0; exact World.block_lt_of_cell? w _ hc0
    · have hlt : i < (ss.take len).length := (List.getElem?_eq_some_iff.1 hi).1
      have hlt2 : i < ss.length := by simp at hlt; omega
      have h1 := hc i hlt2
      rw [hadd] at h1
      rw [h1]
      rw [List.getElem?_take, if_pos (by simp at hlt; omega)] at hi
      simp [List.getD, hi]

theorem laidOut : laidOutB Tryd.prog = true := by kernel_rfl

theorem own : ownKnob Tryd.prog.godebug = none := by kernel_rfl
theorem sent {W : World} (h : laidMetH Tryd.prog Rows.fnWrittenIsReadRow.laid W) : ∃ eof full, Sent2 eof full W := by
  rw [MakeChecks.laidMetH_plain _ _ _ (by kernel_rfl)] at h
  have h1 := laidMet.filter (fun x => x.1 == "io.EOF" || x.1 == "bufio.ErrBufferFull") h
  have e : Rows.fnWrittenIsReadRow.laid.filter (fun x => x.1 == "io.EOF" || x.1 == "bufio.ErrBufferFull") = laid2 := by kernel_rfl
  rw [e] at h1
  exact sent_of h1

theorem door_met (os : Os) (args : Array Value) : laidMetH Tryd.prog Rows.fnWrittenIsReadRow.laid ((World.laidAll Tryd.prog os Rows.fnWrittenIsReadRow.laid).forCall (fun _ _ => 0) ⟨#[], args, []⟩).memory := by
  rw [MakeChecks.laidMetH_plain _ _ _ (by kernel_rfl)]
  exact laidMet_laidAll _ (by kernel_rfl) (by kernel_rfl)

set_option maxRecDepth 100000 in
theorem lifted (os : Os) (started : os.Started) (H : Type) (enc : TypeId × Value → H) :
    ReturnsInHanded {} Tryd.checked os 4 .any (fun w args => (Rows.fnWrittenIsReadSpec.pre enc Tryd.prog Tryd.f4 Rows.fnWrittenIsReadRow.domain false w args ∧ laidMetH Tryd.prog Rows.fnWrittenIsReadRow.laid w) ∧ sizedMet enc Tryd.prog Tryd.f4 (OpenSpec.ofChange Rows.fnWrittenIsReadSpec) false w args)
      (Rows.fnWrittenIsReadSpec.post enc Tryd.prog Tryd.f4 false true false false) := by
  refine returnsInHanded_of_change_and (C := Tryd.checked) (X := fun w _ => laidMetH Tryd.prog Rows.fnWrittenIsReadRow.laid w) (fun _ _ _ hh h => h.of_heap hh) own started (by kernel_rfl) Tryd.func4
    (ChangeSpec.witness_shaped (enc := enc) (C := Tryd.checked) (os := os) (X := fun w _ => laidMetH Tryd.prog Rows.fnWrittenIsReadRow.laid w) false (World.laidAll Tryd.prog os Rows.fnWrittenIsReadRow.laid) #[.slice none 0 0, .slice none 0 0, .slice none 0 0, .bool false, .slice none 0 0] 8 (World.laidAll_os _ _ _)
      (World.shaped_of_ZipB (by kernel_rfl) (by kernel_rfl)) (by kernel_rfl) (by kernel_rfl) (by kernel_rfl) (door_met os _)) ?_
  intro W base args ds gs before hval0 hW hc _ hL _
  have hval : ∀ (j : Nat) t v, Tryd.f4.params[j]? = some t → args[j]? = some v → Value.okWide Tryd.prog W .any base t v := hval0
  have hW' := hW
  obtain ⟨p, q, hA0, hV, rfl, hfz, hnd⟩ := hW
  have hA : DataW.TrodAll enc Tryd.prog W 0 (fun _ => true) true Tryd.f4.params.toList args.toList ds p := hA0
  rw [Tryd.params4] at hA hval
  obtain ⟨v0, vs0, d0, ds0, p0, q0, hargs, rfl, rfl, h0, r0⟩ := trodAll_cons hA
  obtain ⟨v1, vs1, d1, ds1, p1, q1, rfl, rfl, rfl, h1, r1⟩ := trodAll_cons r0
  obtain ⟨v2, vs2, d2, ds2, p2, q2, rfl, rfl, rfl, h2, r2⟩ := trodAll_cons r1
  obtain ⟨v3, vs3, d3, ds3, p3, q3, rfl, rfl, rfl, h3, r3⟩ := trodAll_cons r2
  obtain ⟨v4, vs4, d4, ds4, p4, q4, rfl, rfl, rfl, h4, r4⟩ := trodAll_cons r3
  obtain ⟨rfl, rfl, rfl⟩ := trodAll_nil r4
  obtain rfl : args = #[v0, v1, v2, v3, v4] := by cases args; simp_all
  obtain ⟨rfl, rfl⟩ := trodVars_none hV
  obtain ⟨a0, l0, c0, rfl⟩ := okWide_slice Tryd.underlying31 (hval 0 31 v0 rfl rfl)
  have k0 := h0
  have lt0 : ∀ x ∈ p0, x.block < W.heap.size := by obtain ⟨m, hm⟩ := k0; exact DataW.trod_lt m _ _ _ hm
  obtain ⟨z0, g0⟩ : ∃ zs, StrRow W a0 l0 c0 zs := by
    obtain ⟨fuel, hf⟩ := h0
    rcases open_strings Tryd.underlying31 Tryd.underlying9 (by kernel_rfl) hf with ⟨hcs, _⟩ | ⟨x, l, c, ss, hcs, _, hl, hm, hz, _, hcell, hws⟩
    · simp [Value.cells] at hcs
      obtain ⟨rfl, rfl, rfl⟩ := hcs
      exact ⟨[], strRow_nil _ _⟩
    · simp [Value.cells] at hcs
      obtain ⟨rfl, rfl, rfl⟩ := hcs
      exact ⟨_, strRow_some W _ _ _ ss hl hm (by simpa using hz) hcell⟩
  obtain ⟨a1, l1, c1, rfl⟩ := okWide_slice Tryd.underlying31 (hval 1 31 v1 rfl rfl)
  have k1 := h1
  have lt1 : ∀ x ∈ p1, x.block < W.heap.size := by obtain ⟨m, hm⟩ := k1; exact DataW.trod_lt m _ _ _ hm
  obtain ⟨z1, g1⟩ : ∃ zs, StrRow W a1 l1 c1 zs := by
    obtain ⟨fuel, hf⟩ := h1
    rcases open_strings Tryd.underlying31 Tryd.underlying9 (by kernel_rfl) hf with ⟨hcs, _⟩ | ⟨x, l, c, ss, hcs, _, hl, hm, hz, _, hcell, hws⟩
    · simp [Value.cells] at hcs
      obtain ⟨rfl, rfl, rfl⟩ := hcs
      exact ⟨[], strRow_nil _ _⟩
    · simp [Value.cells] at hcs
      obtain ⟨rfl, rfl, rfl⟩ := hcs
      exact ⟨_, strRow_some W _ _ _ ss hl hm (by simpa using hz) hcell⟩
  obtain ⟨a2, l2, c2, rfl⟩ := okWide_slice Tryd.underlying32 (hval 2 32 v2 rfl rfl)
  have k2 := h2
  have lt2 : ∀ x ∈ p2, x.block < W.heap.size := by obtain ⟨m, hm⟩ := k2; exact DataW.trod_lt m _ _ _ hm
  obtain ⟨z2, g2⟩ : ∃ zs, IntRow W a2 l2 c2 zs := by
    obtain ⟨fuel, hf⟩ := h2
    rcases open_ints Tryd.underlying32 Tryd.underlying3 (by kernel_rfl) hf with ⟨hcs, _⟩ | ⟨x, l, c, zs, hcs, _, hl, hm, hz, _, hcell, hws⟩
    · simp [Value.cells] at hcs
      obtain ⟨rfl, rfl, rfl⟩ := hcs
      exact ⟨[], intRow_nil _ _⟩
    · simp [Value.cells] at hcs
      obtain ⟨rfl, rfl, rfl⟩ := hcs
      exact ⟨_, intRow_some W _ _ _ zs hl hm (by simpa using hz) hcell⟩
  obtain ⟨a3, rfl, rfl, rfl⟩ := open_bool Tryd.underlying4 (hval 3 4 v3 rfl rfl) h3
  obtain ⟨a4, l4, c4, rfl⟩ := okWide_slice Tryd.underlying22 (hval 4 22 v4 rfl rfl)
  have k4 := h4
  have lt4 : ∀ x ∈ p4, x.block < W.heap.size := by obtain ⟨m, hm⟩ := k4; exact DataW.trod_lt m _ _ _ hm
  obtain ⟨z4, g4, n4⟩ : ∃ l, ArgB (.slice a4 l4 c4) l W ∧ l4 = l.length := by
    obtain ⟨fuel, hf⟩ := h4
    rcases open_ints Tryd.underlying22 Tryd.underlying5 (by kernel_rfl) hf with ⟨hcs, _⟩ | ⟨x, l, c, zs, hcs, _, hl, hm, hz, _, hcell, hws⟩
    · simp [Value.cells] at hcs
      obtain ⟨rfl, rfl, rfl⟩ := hcs
      exact ⟨[], .inl ⟨0, 0, rfl, rfl⟩, rfl⟩
    · simp [Value.cells] at hcs
      obtain ⟨rfl, rfl, rfl⟩ := hcs
      exact argB_some W _ _ _ zs hl (by simpa using hz) hcell hws
  clear hA0 hval0
  obtain ⟨eof, full, hS⟩ := sent hL
  refine (walk a0 a1 a2 a4 l0 c0 l1 c1 l2 c2 l4 c4 a3 z0 z1 z2 z4 eof full W hS g0 g1 g2 g4 n4).mono fun e W' ⟨he, hO⟩ => ?_
  have bel : Below W.heap.size W W' := hO.below (fun _ h => by cases h) (Nat.le_refl _)
  subst he
  exact ⟨_, rfl, _, _, _, [], _, [], hW', trodAll_mk1 (shut_bool Tryd.underlying4 _), (trodAll_cons_mk (Below.trod laidOut (by kernel_rfl) (of_decide_eq_true (by kernel_rfl)) k0 bel lt0) (trodAll_cons_mk (Below.trod laidOut (by kernel_rfl) (of_decide_eq_true (by kernel_rfl)) k1 bel lt1) (trodAll_cons_mk (Below.trod laidOut (by kernel_rfl) (of_decide_eq_true (by kernel_rfl)) k2 bel lt2) (trodAll_cons_mk (shut_bool Tryd.underlying4 _) (trodAll_cons_mk (Below.trod laidOut (by kernel_rfl) (of_decide_eq_true (by kernel_rfl)) k4 bel lt4) trodAll_mk0))))), rfl, bel.frame _, fun h => by cases h⟩

theorem over : Rows.FnWrittenIsReadSaid :=
  OpenClaim.holds_of_wide 4 Tryd.f4 rfl rfl rfl rfl rfl rfl rfl ⟨rfl, rfl, rfl, rfl, rfl⟩ rfl rfl rfl rfl rfl (by kernel_rfl) Tryd.func4 (by kernel_rfl)
    (of_decide_eq_true (by kernel_rfl)) (by unfold Func.isWrapper; first | (rw [if_pos (by decide +kernel)]; kernel_rfl) | (rw [if_neg (by decide +kernel)]; exact ⟨rfl, rfl⟩))
    (fun os started H enc _ => lifted os started H enc)

theorem proved : Rows.FnWrittenIsReadCardSaid :=
  Claim7.holds_tied_plain_at .later [] [.sentinel, .sentinel, .sentinel, .sentinel, .sentinel, .sentinel, .sentinel, .sentinel] true (true, "9cdbb75af064ae82bde7e6f3c8014823058ca7c3b6372e8d5d510e6bbd4896e0") true over (fun _ h => by cases h) (by kernel_rfl) (fun _ h => by cases h) fnWrittenIsRead_row_tie rfl ⟨rfl, rfl⟩ (by kernel_rfl) rfl
    (fun f fn hf hfn => by
      obtain rfl : f = 4 := Option.some.inj ((show Tryd.prog.funcNamed "mailtexts/laws.FnWrittenIsRead" = some 4 by kernel_rfl).symm.trans hf) |>.symm
      obtain rfl : fn = Tryd.f4 := (Option.some.inj (Tryd.func4.symm.trans hfn)).symm
      exact ⟨by kernel_rfl, fun j t ht => by
        rw [Tryd.params4] at ht
        have hm := Array.mem_of_getElem? ht
        have hall : (([31, 31, 32, 4, 22] : List TypeId).all fun u => !Tryd.prog.wantsStandIn u) = true := by kernel_rfl
        exact (show Tryd.prog.wantsStandIn t = false by simpa using List.all_eq_true.1 hall t (by simpa using hm))⟩)
    (by kernel_rfl)
#print axioms proved
end Go.Proofs.YtddnjdapdcopgaaDoor.fnWrittenIsRead

