/- consumeAddrSpec over an address of atoms with points: the walk. -/
import Derived.Test.YtolbedmmjennoaaDoorDotLaw
import Derived.Test.YtolbedmmjennoaaDoorConsume
import Derived.Test.YtolbedmmjennoaaDoorAtom
import Derived.Defers
import Derived.StillTailTactics
import Derived.Deep.QuietTactic
import Derived.Deep.RegionHeld3
import Derived.BigQuiet
import Derived.WalkMore
import Derived.BigRegion
namespace Go.Proofs.YtolbedmmjennoaaDoor
open Go.RowKit

/-- The deferred closure, where there is no error: nothing. -/
theorem specDefer (pe po pp : Addr) (u : FrameMode) (w : World) (he : w.cell? pe = some .nilIface) :
    CallsD Tryd.prog 46 #[.pointer (some pe), .pointer (some po), .pointer (some pp)] u w fun e u' w' => u' = u ∧ (e = .returned (.tuple #[]) ∧ w' = w) := by
  go_enter_d Tryd.func46, Tryd.ntmps46
  go_wp2
  go_end0
  exact ⟨rfl, rfl⟩

theorem dotted_head (l : List UInt8) (h : dottedL l = true) : ∃ c r, l = c :: r ∧ atomC c = true := by
  cases l with
  | nil => cases h
  | cons c r =>
    rcases dotStep_cons true c r h with ⟨_, h5, _⟩ | ⟨_, h5, _⟩
    · cases h5
    · exact ⟨c, r, rfl, h5⟩

theorem dotted_trim (l z : List UInt8) (h : dottedL l = true) : trimL (l ++ z) = l ++ z := by
  obtain ⟨c, r, rfl, hc⟩ := dotted_head l h
  have hw : isWs c = false := by
    cases hx : isWs c with
    | false => rfl
    | true =>
      simp [isWs] at hx
      rcases hx with rfl | rfl <;> exact absurd hc (by decide)
  show (if isWs c then trimL (r ++ z) else c :: (r ++ z)) = _
  rw [hw]; rfl

/-- The first byte of a text that an atom begins. -/
theorem dotted_first (s z t : ByteArray) (hs : t = s ++ z) (h : dottedL s.data.toList = true) : ∃ h0 : 0 < t.size, ∀ x : UInt8, atomC x = false → ((t[0]'h0).toNat : Int) ≠ (x.toNat : Int) := by
  subst hs
  obtain ⟨c, r, hl, hc⟩ := dotted_head _ h
  have h0 : 0 < (s ++ z).size := by rw [size_of_list, append_list, hl]; simp
  refine ⟨h0, fun x hx => ?_⟩
  have h1 := drop_cons (s ++ z) 0 h0
  rw [List.drop_zero, append_list, hl] at h1
  have h2 : (s ++ z)[0] = c := by
    rw [List.cons_append] at h1
    exact (List.cons.inj h1).1.symm
  rw [h2]
  intro e
  have : c = x := UInt8.toNat_inj.1 (by omega)
  rw [this, hx] at hc
  cases hc

theorem dotted_trimB (s z t : ByteArray) (hs : t = s ++ z) (h : dottedL s.data.toList = true) : trimB t = t := by
  subst hs
  rw [trimB, append_list, dotted_trim _ _ h, ← append_list, list_mkB]

theorem empty_any (b : Nat) (s : ByteArray) (w : World) (hP : PAt b s w) (h0 : 0 < s.size) :
    Calls Tryd.prog 39 #[.pointer (some ⟨b, 0, none⟩)] w fun e w' => e = .returned (.bool false) ∧ w = w' := by
  have hc := hP.cell
  have z1 : ((s.size : Int) == 0) = false := beq_eq_false_iff_ne.2 (by omega)
  go_enter Tryd.func39, Tryd.ntmps39
  go_wp2_with (go_at_call 58; go_in)
  go_ret
  exact ⟨rfl, rfl⟩

theorem peek_any (b : Nat) (s : ByteArray) (w : World) (hP : PAt b s w) (h0 : 0 < s.size) :
    Calls Tryd.prog 40 #[.pointer (some ⟨b, 0, none⟩)] w fun e w' => e = .returned (.int .u8 (((s[0]'h0).toNat : Nat) : Int)) ∧ w = w' := by
  have hc := hP.cell
  go_enter Tryd.func40, Tryd.ntmps40
  go_wp2
  go_ret
  exact ⟨rfl, rfl⟩

theorem consumeDotted_any (b : Nat) (t z s : ByteArray) (w : World) (hs : s = t ++ z) (hP : PAt b s w) (h : dottedL t.data.toList = true) (hz : ends z.data.toList = true) (hv : Lib.validD z.data.toList = true) (hsz : s.size ≤ 1000000000) (hT : Lib.Utf8Tabs 0 1 w) :
    Calls Tryd.prog 49 #[.pointer (some ⟨b, 0, none⟩), .bool true, .bool false] w fun e w' => e = .returned (.tuple #[.string t, .nilIface]) ∧ PAt b z w' ∧ w.grownBy w' (some b) := by
  subst hs
  have hr := dotted_res t z h hz
  refine (consumeAtom_any b _ true false w hP hsz (by rw [append_list]; exact dotted_valid _ _ h hv) hT).mono ?_
  rintro e w' (⟨_, rfl, h2, h3⟩ | ⟨h1, _⟩)
  · rw [hr.2.2] at h2
    exact ⟨by rw [hr.2.1], h2, h3⟩
  · rw [hr.1] at h1; cases h1

/-- The blocks while an address is taken: the parser's, the one that holds the parser's address, the error's. -/
structure SAt (b n : Nat) (s : ByteArray) (w : World) : Prop where
  prs : PAt b s w
  ptr : w.heap[n]? = some (.cells #[.pointer (some ⟨b, 0, none⟩)] 51 (0, 0))
  err : w.heap[n + 1]? = some (.cells #[.nilIface] 56 (0, 0))
theorem SAt.cellP {b n : Nat} {s : ByteArray} {w : World} (h : SAt b n s w) : w.cell? ⟨n, 0, none⟩ = some (.pointer (some ⟨b, 0, none⟩)) := by
  have := h.ptr; simp [World.cell?, this]
theorem SAt.cellE {b n : Nat} {s : ByteArray} {w : World} (h : SAt b n s w) : w.cell? ⟨n + 1, 0, none⟩ = some .nilIface := by
  have := h.err; simp [World.cell?, this]
theorem SAt.freeE {b n : Nat} {s : ByteArray} {w : World} (h : SAt b n s w) : w.frozen? ⟨n + 1, 0, none⟩ = false := by
  have := h.err; simp [World.frozen?, this]
theorem SAt.ltE {b n : Nat} {s : ByteArray} {w : World} (h : SAt b n s w) : n + 1 < w.heap.size := (Array.getElem?_eq_some_iff.1 h.err).1
theorem SAt.grown {b n : Nat} {s t : ByteArray} {w w' : World} (h : SAt b n s w) (g : w.grownBy w' (some b)) (hb : b < n) (hP : PAt b t w') : SAt b n t w' :=
  ⟨hP, (g.block n (by have := h.ltE; omega) (by intro e; injection e; omega)).trans h.ptr, (g.block (n + 1) h.ltE (by intro e; injection e; omega)).trans h.err⟩
theorem SAt.setErr {b n : Nat} {s : ByteArray} {w : World} (h : SAt b n s w) (hb : b < n) : SAt b n s (w.setCell ⟨n + 1, 0, none⟩ .nilIface) := by
  refine ⟨(Below.heap_setCell _ _ _ _ (by simp; omega)).trans h.prs, (Below.heap_setCell _ _ _ _ (by simp)).trans h.ptr, ?_⟩
  have := h.err
  simp [World.setCell, Array.getElem?_modify, this]
theorem SAt.drew {b n : Nat} {s : ByteArray} {w : World} (h : SAt b n s w) : SAt b n s w.drew := ⟨h.prs, h.ptr, h.err⟩
theorem SAt.made (b : Nat) (s : ByteArray) (w : World) (hP : PAt b s w) (o : Obj) : SAt b w.heap.size s (((w.alloc (.cells #[.pointer (some ⟨b, 0, none⟩)] 51)).alloc (.cells #[.nilIface] 56)).alloc o) := by
  have hlt := hP.lt
  refine ⟨(((((Below.refl w.heap.size w).alloc (Nat.le_refl _) _).alloc (by simp) _).alloc (by simp; omega) _).block b hlt).trans hP, ?_, ?_⟩
  · rw [Below.heap_alloc _ _ _ (by simp; omega), Below.heap_alloc _ _ _ (by simp)]
    exact heap_alloc_new w _
  · rw [Below.heap_alloc _ _ _ (by simp)]
    have := heap_alloc_new (w.alloc (.cells #[.pointer (some ⟨b, 0, none⟩)] 51)) (.cells #[.nilIface] 56)
    simpa using this

theorem grown_setNew {w w2 : World} {row : Option Nat} (h : w.grownBy w2 row) (k : Nat) (hk : w.heap.size ≤ k) (v : Value) : w.grownBy (w2.setCell ⟨k, 0, none⟩ v) row :=
  ⟨h.os, h.tape, h.output, by simp [World.setCell]; exact h.size, fun j hj hne => (Below.heap_setCell _ _ _ _ (by simp; omega)).trans (h.block j hj hne)⟩

set_option maxHeartbeats 4000000 in
set_option maxRecDepth 100000 in
theorem addrSpec_any (b : Nat) (l d z s1 s2 s3 : ByteArray) (w : World) (e1 : s1 = l ++ s2) (e2 : s2 = ⟨#[64]⟩ ++ s3) (e3 : s3 = d ++ z) (hP : PAt b s1 w) (hl : dottedL l.data.toList = true) (hd : dottedL d.data.toList = true) (hz : ends z.data.toList = true) (hv : Lib.validD z.data.toList = true)
    (hs1 : l.size ≤ 10000) (hs2 : d.size ≤ 10000) (hs3 : z.size ≤ 10000) (hT : ∀ w', w.grownBy w' (some b) → Lib.Utf8Tabs 0 1 w') :
    Calls Tryd.prog 27 #[.pointer (some ⟨b, 0, none⟩)] w fun e w' => e = .returned (.tuple #[.string (l ++ ⟨#[64]⟩ ++ d), .nilIface]) ∧ PAt b z w' ∧ w.grownBy w' (some b) := by
  have hlt := hP.lt
  have hmf : ∀ (fn : Fn) (first cap : Array Value) (w : World), (Instr.makeFunc fn first cap).run Tryd.prog w = .ok (.func fn first cap) w := fun _ _ _ _ => rfl
  have hS0 := SAt.made b _ w hP (.cells #[.string s1, .pointer none] 54)
  have hg0 : w.grownBy (((w.alloc (.cells #[.pointer (some ⟨b, 0, none⟩)] 51)).alloc (.cells #[.nilIface] 56)).alloc (.cells #[.string s1, .pointer none] 54)) (some b) :=
    grown_below ((((Below.refl w.heap.size w).alloc (Nat.le_refl _) _).alloc (by simp) _).alloc (by simp; omega) _) (Nat.le_refl _) _
  have hB0 : Below w.heap.size w (((w.alloc (.cells #[.pointer (some ⟨b, 0, none⟩)] 51)).alloc (.cells #[.nilIface] 56)).alloc (.cells #[.string s1, .pointer none] 54)) :=
    (((Below.refl w.heap.size w).alloc (Nat.le_refl _) _).alloc (by simp) _).alloc (by simp; omega) _
  have hsz1 : s1.size ≤ 1000000000 := by rw [e1, e2, e3]; simp only [ByteArray.size_append]; have : (⟨#[64]⟩ : ByteArray).size = 1 := rfl; omega
  have hsz3 : s3.size ≤ 1000000000 := by rw [e3]; simp only [ByteArray.size_append]; omega
  have hsz2 : s2.size ≤ 1000000000 := by rw [e2, e3]; simp only [ByteArray.size_append]; have : (⟨#[64]⟩ : ByteArray).size = 1 := rfl; omega
  obtain ⟨h01, hne1⟩ := dotted_first l s2 s1 e1 hl
  obtain ⟨h03, hne3⟩ := dotted_first d z s3 e3 hd
  have ht1 := hidF (dotted_trimB l s2 s1 e1 hl)
  have ht3 := hidF (dotted_trimB d z s3 e3 hd)
  have hl2 : s2.data.toList = 64 :: s3.data.toList := by rw [e2, append_list]; rfl
  have h02 : 0 < s2.size := by rw [size_of_list, hl2]; simp
  have h2c : (((s2[0]'h02).toNat : Nat) : Int) = 64 := by
    have := drop_cons s2 0 h02
    rw [List.drop_zero, hl2] at this
    rw [← (List.cons.inj this).1]; rfl
  have htail := hidF (show tailB s2 = s3 by rw [tailB, hl2]; exact list_mkB s3)
  have q1 : ((((s1[0]'h01).toNat : Nat) : Int) == 34) = false := beq_eq_false_iff_ne.2 (hne1 34 (by decide))
  have q3 : ((((s3[0]'h03).toNat : Nat) : Int) == 91) = false := beq_eq_false_iff_ne.2 (hne3 91 (by decide))
  have HT := hidF hT
  have Hl := hidF hl
  have Hd := hidF hd
  have Hz := hidF hz
  have Hv := hidF hv
  have E1 := hidF e1
  have E3 := hidF e3
  have hend2 := hidF (show ends s2.data.toList = true by rw [hl2]; rfl)
  have hval2 := hidF (show Lib.validD s2.data.toList = true by rw [hl2, Lib.validD_cons 64 _ (by decide), e3, append_list]; exact dotted_valid _ _ hd hv)
  have hcP : w.cell? ⟨b, 0, none⟩ = some (.string s1) := hP.cell
  have hcP1 : w.cell? ⟨b, 1, none⟩ = some (.pointer none) := by unfold PAt at hP; simp [World.cell?, hP]
  have HS := hidF hS0
  have HG := hidF hg0
  have HB := hidF hB0
  clear hT hl hd hz hv e1 e2 e3 hl2 hne1 hne3 hS0 hg0 hB0
  go_enter_defers Tryd.func27, Tryd.ntmps27
  go_wp2_with fail
  refine (skipSpace_any b _ _ HS.out.prs (by omega)).mono ?_
  rintro e w1 ⟨rfl, hP1, hg1⟩
  rw [ht1.out] at hP1
  have hS1 := HS.out.grown hg1 hlt hP1
  have hG1 := hidF (grown_trans HG.out hg1)
  have cp1 := hS1.cellP
  have HS1 := hidF hS1
  clear hg1 hP1 HS HG hS1 hcP hcP1 HB
  go_wp2_with fail
  refine (empty_any b s1 w1 HS1.out.prs h01).mono ?_
  rintro e w2 ⟨rfl, rfl⟩
  go_wp2_with fail
  refine (peek_any b s1 w1 HS1.out.prs h01).mono ?_
  rintro e w2 ⟨rfl, rfl⟩
  go_wp2_with fail
  refine (consumeDotted_any b l s2 s1 w1 E1.out HS1.out.prs Hl.out hend2.out hval2.out hsz1 (HT.out w1 hG1.out)).mono ?_
  rintro e w2 ⟨rfl, hP2, hg2⟩
  have hS2 := HS1.out.grown hg2 hlt hP2
  have hG2 := hidF (grown_trans hG1.out hg2)
  have cp2 := hS2.cellP
  have ce2 := hS2.cellE
  have fe2 := hS2.freeE
  have HS2 := hidF hS2
  clear hg2 hP2 hS2 HS1 cp1
  have hS3 := HS2.out.setErr hlt
  have hG3 := hidF (grown_setNew hG2.out (w.heap.size + 1) (by omega) .nilIface)
  go_wp2_with fail
  refine (consume_yes b s2 64 _ hS3.prs h02 h2c).mono ?_
  rintro e w3 ⟨rfl, hw3⟩
  rw [htail.out] at hw3
  have hP3 : PAt b s3 w3 := by rw [← hw3]; exact hS3.prs.put s3
  have hg3 : (w2.setCell ⟨w.heap.size + 1, 0, none⟩ .nilIface).grownBy w3 (some b) := by rw [← hw3]; exact grown_set _ _ _
  have hS4 := hS3.grown hg3 hlt hP3
  have hG4 := hidF (grown_trans hG3.out hg3)
  have cp4 := hS4.cellP
  have HS4 := hidF hS4
  clear hw3 hP3 hg3 hS3 hS4 HS2 cp2 ce2 fe2
  go_wp2_with fail
  refine (skipSpace_any b _ _ HS4.out.prs (by omega)).mono ?_
  rintro e w5 ⟨rfl, hP5, hg5⟩
  rw [ht3.out] at hP5
  have hS5 := HS4.out.grown hg5 hlt hP5
  have hG5 := hidF (grown_trans hG4.out hg5)
  have cp5 := hS5.cellP
  have HS5 := hidF hS5
  clear hg5 hP5 HS4 hS5 cp4
  go_wp2_with fail
  refine (empty_any b s3 w5 HS5.out.prs h03).mono ?_
  rintro e w6 ⟨rfl, rfl⟩
  go_wp2_with fail
  refine (peek_any b s3 w5 HS5.out.prs h03).mono ?_
  rintro e w6 ⟨rfl, rfl⟩
  go_wp2_with fail
  refine (consumeDotted_any b d z s3 w5 E3.out HS5.out.prs Hd.out Hz.out Hv.out hsz3 (HT.out w5 hG5.out)).mono ?_
  rintro e w6 ⟨rfl, hP6, hg6⟩
  have hS6 := HS5.out.grown hg6 hlt hP6
  have hG6 := hidF (grown_trans hG5.out hg6)
  have cp6 := hS6.cellP
  have ce6 := hS6.cellE
  have fe6 := hS6.freeE
  have hS7 := hS6.setErr hlt
  have hG7 := hidF (grown_setNew hG6.out (w.heap.size + 1) (by omega) .nilIface)
  have HS7 := hidF hS7
  clear hg6 hP6 hS6 hS7 HS5 cp5
  have n1 : ¬ 9223372036854775807 < l.size + 1 := by omega
  have n2 : ¬ 9223372036854775807 < l.size + 1 + d.size := by omega
  go_wp2_with fail
  have hS8 := HS7.out.setErr hlt
  have hG8 := grown_setNew hG7.out (w.heap.size + 1) (by omega) .nilIface
  have ce8 := hS8.cellE
  refine leaves_cons (f := 46) (args := #[.pointer (some ⟨w.heap.size + 1, 0, none⟩), .pointer (some ⟨w.heap.size + 1 + 1, 0, none⟩), .pointer (some ⟨w.heap.size, 0, none⟩)]) (by simp) (by simp [go_sem]) ?_
  refine (specDefer _ _ _ .returning _ ce8).mono ?_
  rintro e u' w8 ⟨rfl, rfl, rfl⟩
  refine ⟨.tuple #[.string (l ++ ⟨#[64]⟩ ++ d), .nilIface], ?_, rfl, hS8.prs, hG8⟩
  simp [results, Tryd.results27, go_sem, ce8]

/-- What Spec hands back of an address. -/
theorem mailSpec_any (l d z s1 s2 s3 : ByteArray) (w : World) (e1 : s1 = l ++ s2) (e2 : s2 = ⟨#[64]⟩ ++ s3) (e3 : s3 = d ++ z) (hl : dottedL l.data.toList = true) (hd : dottedL d.data.toList = true) (hz : ends z.data.toList = true) (hv : Lib.validD z.data.toList = true)
    (hs1 : l.size ≤ 10000) (hs2 : d.size ≤ 10000) (hs3 : z.size ≤ 10000) (hT : Lib.Utf8Tabs 0 1 w) :
    Calls Tryd.prog 16 #[.string s1] w fun e w' => e = .returned (.tuple #[.string (l ++ ⟨#[64]⟩ ++ d), .string z, .bool true]) ∧ Below w.heap.size w w' := by
  have hcall := hidF (addrSpec_any w.heap.size l d z s1 s2 s3 _ e1 e2 e3 (PAt.made w s1) hl hd hz hv hs1 hs2 hs3 (fun w' hg => utf8_below hT (((Below.refl w.heap.size w).alloc (Nat.le_refl _) (.cells #[.string s1, .pointer none] 54)).trans (below_grown hg (Nat.le_refl _) (by simp)))))
  clear e1 e2 e3 hl hd hz hv
  go_enter Tryd.func16, Tryd.ntmps16
  go_wp2_with fail
  refine hcall.out.mono ?_
  rintro e w1 ⟨rfl, hP, hg⟩
  have hb := ((Below.refl w.heap.size w).alloc (Nat.le_refl _) (.cells #[.string s1, .pointer none] 54)).trans (below_grown hg (Nat.le_refl _) (by simp))
  have hc := hP.cell
  clear hg hcall
  go_wp2_with fail
  go_quiet (fail)
  go_wp2_with fail
  go_ret3
  exact ⟨rfl, below_drewN hb _⟩

theorem implSpec_any (l d z s1 s2 s3 : ByteArray) (w : World) (e1 : s1 = l ++ s2) (e2 : s2 = ⟨#[64]⟩ ++ s3) (e3 : s3 = d ++ z) (hl : dottedL l.data.toList = true) (hd : dottedL d.data.toList = true) (hz : ends z.data.toList = true) (hv : Lib.validD z.data.toList = true)
    (hs1 : l.size ≤ 10000) (hs2 : d.size ≤ 10000) (hs3 : z.size ≤ 10000) (hT : Lib.Utf8Tabs 0 1 w) :
    Calls Tryd.prog 10 #[.string s1] w fun e w' => e = .returned (.tuple #[.string (l ++ ⟨#[64]⟩ ++ d), .string z, .bool true]) ∧ Below w.heap.size w w' := by
  have hcall := hidF (mailSpec_any l d z s1 s2 s3 w e1 e2 e3 hl hd hz hv hs1 hs2 hs3 hT)
  clear e1 e2 e3 hl hd hz hv
  go_enter Tryd.func10, Tryd.ntmps10
  go_wp2_with fail
  refine hcall.out.mono ?_
  rintro e w1 ⟨rfl, hb⟩
  clear hcall
  go_wp2_with fail
  go_ret3
  exact ⟨rfl, hb⟩
end Go.Proofs.YtolbedmmjennoaaDoor
