/- consumeAtom over texts of UTF-8: the walk. -/
import Derived.Test.YtolbedmmjennoaaDoorRunes
import Derived.Test.YtolbedmmjennoaaDoorFind
import Derived.StillTailTactics
import Derived.Deep.QuietTactic
import Derived.BigQuiet
import Derived.WalkMore
import Derived.BigRegion
namespace Go.Proofs.YtolbedmmjennoaaDoor
open Go.RowKit

theorem decodeGo_mkB (l : List UInt8) : Lib.decodeGo (mkB l) = if l = [] then (65533, 0) else Lib.decodeL l := by
  unfold Lib.decodeGo
  cases l with
  | nil => rfl
  | cons c r => rw [if_neg (by rw [size_mkB]; simp), if_neg (by simp)]; rfl

/-- Is what was taken no atom with points? -/
def dotBad (l : List UInt8) : Bool := Lib.hasPrefix l [46] || hasSub [46, 46] l || Lib.hasSuffix l [46]

/-- What consumeAtom hands back: the atom, or an error. -/
def atomRes (s : ByteArray) (dot perm : Bool) : Bool := decide (0 < runLen dot s.data.toList) && (perm || !dotBad (s.data.toList.take (runLen dot s.data.toList)))

theorem utf8_below {w w' : World} (h : Lib.Utf8Tabs 0 1 w) (hb : Below w.heap.size w w') : Lib.Utf8Tabs 0 1 w' := Utf8Tabs_below h hb

/-- One step of the atom's loop. -/
theorem atom_step (l : List UInt8) (dot : Bool) (hv : Lib.validD l = true) :
    (l = [] ∧ runLen dot l = 0) ∨ ∃ r sz : Nat, l ≠ [] ∧ Lib.decodeL l = (r, sz) ∧ 1 ≤ sz ∧ sz ≤ l.length ∧ ¬ (sz = 1 ∧ r = 65533) ∧
      ((sz = 1 ∧ atextI (r : Int) dot = false ∧ runLen dot l = 0) ∨ (atextI (r : Int) dot = true ∧ Lib.validD (l.drop sz) = true ∧ runLen dot l = sz + runLen dot (l.drop sz))) := by
  cases l with
  | nil => exact .inl ⟨rfl, rfl⟩
  | cons c t =>
    right
    have hs := utf_step (c :: t) (by simp) hv
    by_cases hc : c.toNat < 128
    · have hd := decode_ascii_l c t hc
      refine ⟨c.toNat, 1, by simp, hd, Nat.le_refl _, by simp, by omega, ?_⟩
      rw [hd] at hs
      rw [atext_ok dot c hc]
      cases hok : okC dot c with
      | false => exact .inl ⟨rfl, rfl, by simp [runLen, hok]⟩
      | true => exact .inr ⟨rfl, hs.2, runLen_skip dot 1 (c :: t) (by simp) (by intro b hb; simp at hb; rw [hb]; exact hok)⟩
    · have hh := utf_high c t (by omega) hv
      refine ⟨_, _, by simp, rfl, hh.2.2.1, hh.2.1, fun e => hs.1 ⟨e.2, e.1⟩, .inr ⟨atext_high ((Lib.decodeL (c :: t)).1 : Int) dot (Int.ofNat_le.2 hh.2.2.2), hs.2, ?_⟩⟩
      exact runLen_skip dot _ (c :: t) hh.2.1 (fun b hb => ok_high dot b (hh.1 b hb))

/-- What consumeAtom leaves: the atom is taken; or an error is told. -/
def AtomPost (b : Nat) (s : ByteArray) (dot perm : Bool) (w : World) (e : Ending) (w' : World) : Prop :=
  (atomRes s dot perm = true ∧ e = .returned (.tuple #[.string (mkB (s.data.toList.take (runLen dot s.data.toList))), .nilIface]) ∧ PAt b (mkB (s.data.toList.drop (runLen dot s.data.toList))) w' ∧ w.grownBy w' (some b)) ∨
  (atomRes s dot perm = false ∧ ∃ (a : Addr) (t : ByteArray), e = .returned (.tuple #[.string ⟨#[]⟩, .iface 84 (.pointer (some a))]) ∧ PAt b t w' ∧ w.grownBy w' (some b))

theorem grown_set_drew (w : World) (b : Nat) (v : Value) : w.grownBy (w.setCell ⟨b, 0, none⟩ v).drew (some b) :=
  have h := grown_set w b v
  ⟨h.os, h.tape, h.output, h.size, h.block⟩

theorem take_mkB (s : ByteArray) (k : Nat) : s.extract 0 k = mkB (s.data.toList.take k) := by
  rw [extract_mkB, List.drop_zero, Nat.sub_zero]

set_option maxHeartbeats 4000000 in
set_option maxRecDepth 100000 in
theorem consumeAtom_any (b : Nat) (s : ByteArray) (dot perm : Bool) (w : World) (hP : PAt b s w) (hs : s.size ≤ 1000000000) (hv : Lib.validD s.data.toList = true) (hT : Lib.Utf8Tabs 0 1 w) :
    Calls Tryd.prog 49 #[.pointer (some ⟨b, 0, none⟩), .bool dot, .bool perm] w (AtomPost b s dot perm w) := by
  have hlt := hP.lt
  have Hsl := hidF (size_of_list s)
  go_enter Tryd.func49, Tryd.ntmps49
  go_wp2_with fail
  go_step3
  go_wp2_with fail
  go_step3
  go_wp2_with fail
  go_loopw [8] (fun iv wr => ∃ k : Nat, k ≤ s.size ∧ iv = .int .i64 k ∧ Below w.heap.size w wr ∧ Hid (Lib.validD (s.data.toList.drop k) = true) ∧ Hid (runLen dot s.data.toList = k + runLen dot (s.data.toList.drop k))) (fun iv _ => s.size - (intOf iv).toNat)
  case atStart => exact ⟨0, Nat.zero_le _, rfl, Below.refl _ _, by rw [List.drop_zero]; exact hv, by rw [List.drop_zero, Nat.zero_add]; rfl⟩
  case round =>
    obtain ⟨k, hk, rfl, hb, hvk, hrun⟩ := hrel
    have hPr := hP.below hb hlt
    have hc := hPr.cell
    have hx := from_mkB s k
    have hTr := utf8_below hT hb
    have hdec := hidF (Tryd.utf8_DecodeRuneInString (mkB (s.data.toList.drop k)) wr hTr)
    have hlen : (s.data.toList.drop k).length = s.size - k := by rw [List.length_drop, Hsl.out]
    have Hlen := hidF hlen
    clear hlen
    go_wp2_with fail
    refine hdec.out.mono ?_
    rintro e w1 ⟨rfl, hb1⟩
    rw [decodeGo_mkB]
    have hb2 : Below w.heap.size w w1 := hb.trans (hb1.mono hb.size)
    have hP1 := hP.below hb2 hlt
    have hc1 := hP1.cell
    have hf1 := hP1.free
    have hsz1 := hb2.size
    clear hdec hTr hc
    have hstep := atom_step (s.data.toList.drop k) dot hvk.out
    by_cases hgo : ∃ r sz : Nat, s.data.toList.drop k ≠ [] ∧ Lib.decodeL (s.data.toList.drop k) = (r, sz) ∧ 1 ≤ sz ∧ sz ≤ (s.data.toList.drop k).length ∧ ¬ (sz = 1 ∧ r = 65533) ∧ atextI (r : Int) dot = true ∧ Lib.validD ((s.data.toList.drop k).drop sz) = true ∧ runLen dot (s.data.toList.drop k) = sz + runLen dot ((s.data.toList.drop k).drop sz)
    · obtain ⟨r, sz, hne, hd, h1, h2, h3, h4, h5, h6⟩ := hgo
      rw [if_neg hne, hd]
      have hv2 := hidF (show Lib.validD (s.data.toList.drop (k + sz)) = true by rw [← List.drop_drop]; exact h5)
      have hr2 := hidF (show runLen dot s.data.toList = k + sz + runLen dot (s.data.toList.drop (k + sz)) by rw [hrun.out, h6, List.drop_drop]; omega)
      have hat := hidF (isAtext_any (r : Int) dot w1)
      have h4' := hidF h4
      have e0 : ((sz : Int) == 0) = false := beq_eq_false_iff_ne.2 (by omega)
      have hks : k + sz ≤ s.size := by rw [Hlen.out] at h2; omega
      clear hne hd h5 h6 hstep h4 h2
      by_cases hs1 : sz = 1
      · have e1 : ((sz : Int) == 1) = true := beq_iff_eq.2 (by omega)
        have e2 : ((r : Int) == 65533) = false := beq_eq_false_iff_ne.2 (fun e => h3 ⟨hs1, by omega⟩)
        clear hs1 h3
        go_wp2_with fail
        refine hat.out.mono ?_
        rintro e w2 ⟨rfl, rfl⟩
        rw [h4'.out]
        go_wp2_with fail
        go_roundw
        case rel => exact ⟨k + sz, hks, by go_num, hb2, hv2.out, hr2.out⟩
        case measure => simp [intOf]; omega
      · have e1 : ((sz : Int) == 1) = false := beq_eq_false_iff_ne.2 (by omega)
        clear hs1 h3
        go_wp2_with fail
        refine hat.out.mono ?_
        rintro e w2 ⟨rfl, rfl⟩
        rw [h4'.out]
        go_wp2_with fail
        go_roundw
        case rel => exact ⟨k + sz, hks, by go_num, hb2, hv2.out, hr2.out⟩
        case measure => simp [intOf]; omega
    · have hstop : runLen dot (s.data.toList.drop k) = 0 ∧ (s.data.toList.drop k = [] ∨ ∃ r : Nat, s.data.toList.drop k ≠ [] ∧ Lib.decodeL (s.data.toList.drop k) = (r, 1) ∧ r ≠ 65533 ∧ atextI (r : Int) dot = false) := by
        rcases hstep with ⟨h1, h2⟩ | ⟨r, sz, h1, h2, h3, h4, h5, ⟨h6, h7, h8⟩ | ⟨h6, h7, h8⟩⟩
        · exact ⟨h2, .inl h1⟩
        · subst h6; exact ⟨h8, .inr ⟨r, h1, h2, fun e => h5 ⟨rfl, e⟩, h7⟩⟩
        · exact absurd ⟨r, sz, h1, h2, h3, h4, h5, h6, h7, h8⟩ hgo
      obtain ⟨hr0, hways⟩ := hstop
      have hrk := hidF (show runLen dot s.data.toList = k by rw [hrun.out, hr0, Nat.add_zero])
      clear hgo hstep hr0
      have hk2 : (k : Int) ≤ (s.size : Int) := by omega
      have hx2 := take_mkB s k
      by_cases hk0 : k = 0
      · have e0 : ((k : Int) == 0) = true := beq_iff_eq.2 (by omega)
        have hres := hidF (show atomRes s dot perm = false by unfold atomRes; rw [hrk.out, hk0]; rfl)
        clear hk0
        rcases hways with hnil | ⟨r, hne, hd, hr3, hat0⟩
        · rw [if_pos hnil]
          clear hnil
          go_wp2_with fail
          refine (errNew_any _ w1).mono ?_
          rintro e w2 ⟨a, rfl, hbn⟩
          go_wp2_with fail
          try rw [Exit.noGoto_ret]
          go_ret2
          exact .inr ⟨hres.out, a, s, rfl, hP1.below hbn hP1.lt, grown_below (hb2.trans (hbn.mono hsz1)) (Nat.le_refl _) _⟩
        · rw [if_neg hne, hd]
          have hat := hidF (isAtext_any (r : Int) dot w1)
          have Hat0 := hidF hat0
          have e2 : ((r : Int) == 65533) = false := beq_eq_false_iff_ne.2 (by omega)
          clear hne hd hat0 hr3
          go_wp2_with fail
          refine hat.out.mono ?_
          rintro e w2 ⟨rfl, rfl⟩
          rw [Hat0.out]
          go_wp2_with fail
          refine (errNew_any _ w1).mono ?_
          rintro e w2 ⟨a, rfl, hbn⟩
          go_wp2_with fail
          try rw [Exit.noGoto_ret]
          go_ret2
          exact .inr ⟨hres.out, a, s, rfl, hP1.below hbn hP1.lt, grown_below (hb2.trans (hbn.mono hsz1)) (Nat.le_refl _) _⟩
      · have e0 : ((k : Int) == 0) = false := beq_eq_false_iff_ne.2 (by omega)
        rcases hways with hnil | ⟨r, hne, hd, hr3, hat0⟩
        · rw [if_pos hnil]
          clear hnil
          go_wp2_with fail
          go_region
          have hPn : PAt b (mkB (s.data.toList.drop k)) (w1.setCell ⟨b, 0, none⟩ (.string (mkB (s.data.toList.drop k)))).drew := hP1.put _
          have hgn : w.grownBy (w1.setCell ⟨b, 0, none⟩ (.string (mkB (s.data.toList.drop k)))).drew (some b) := grown_trans (grown_below hb2 (Nat.le_refl _) _) (grown_set_drew _ _ _)
          generalize (w1.setCell ⟨b, 0, none⟩ (.string (mkB (s.data.toList.drop k)))).drew = wn at hPn hgn ⊢
          clear hc1 hf1 hx hx2 hP1 hb1 hb2 hPr
          obtain ⟨at0, hat0⟩ : ∃ at0, at0 = mkB (s.data.toList.take k) := ⟨_, rfl⟩
          rw [← hat0]
          have hatl : at0.data.toList = s.data.toList.take k := by rw [hat0, mkB_list]
          have hats : at0.size ≤ 1000000000 := by rw [hat0, size_mkB, List.length_take]; omega
          have Hat1 := hidF hat0
          have Hatl := hidF hatl
          clear hat0 hatl
          cases perm with
          | true =>
            have hres := hidF (show atomRes s dot true = true by unfold atomRes; rw [hrk.out, decide_eq_true (by omega)]; rfl)
            go_wp2_with fail
            try rw [Exit.noGoto_ret]
            go_ret2
            exact .inl ⟨hres.out, by rw [hrk.out, ← Hat1.out]; rfl, by rw [hrk.out]; exact hPn, hgn⟩
          | false =>
            have hbad := hidF (show atomRes s dot false = !(Lib.hasPrefix at0.data.toList [46] || hasSub [46, 46] at0.data.toList || Lib.hasSuffix at0.data.toList [46]) by unfold atomRes dotBad; rw [hrk.out, decide_eq_true (by omega), Hatl.out]; rfl)
            go_wp2_with fail
            refine (Tryd.strings_HasPrefix at0 ⟨#[46]⟩ _).mono ?_
            rintro e w3 ⟨rfl, rfl⟩
            by_cases hp : Lib.hasPrefix at0.data.toList [46] = true
            · have hp2 : Lib.hasPrefix at0.data.toList (⟨#[46]⟩ : ByteArray).data.toList = true := hp
              rw [hp2]
              have hres := hidF (show atomRes s dot false = false by rw [hbad.out, hp]; rfl)
              clear hp hp2
              go_wp2_with fail
              refine (errNew_any _ _).mono ?_
              rintro e w4 ⟨a, rfl, hbn⟩
              go_wp2_with fail
              try rw [Exit.noGoto_ret]
              go_ret2
              exact .inr ⟨hres.out, a, _, rfl, hPn.below hbn hPn.lt, grown_then hgn hbn hgn.size⟩
            · have hp1 : Lib.hasPrefix at0.data.toList [46] = false := by simpa using hp
              have hp2 : Lib.hasPrefix at0.data.toList (⟨#[46]⟩ : ByteArray).data.toList = false := hp1
              rw [hp2]
              rw [hp1, Bool.false_or] at hbad
              clear hp hp1 hp2
              go_wp2_with fail
              refine (zzContains_any at0 ⟨#[46, 46]⟩ _ (by omega) (by decide)).mono ?_
              rintro e w4 ⟨rfl, rfl⟩
              by_cases hp : hasSub [46, 46] at0.data.toList = true
              · have hp2 : hasSub (⟨#[46, 46]⟩ : ByteArray).data.toList at0.data.toList = true := hp
                rw [hp2]
                have hres := hidF (show atomRes s dot false = false by rw [hbad.out, hp]; rfl)
                clear hp hp2
                go_wp2_with fail
                refine (errNew_any _ _).mono ?_
                rintro e w4 ⟨a, rfl, hbn⟩
                go_wp2_with fail
                try rw [Exit.noGoto_ret]
                go_ret2
                exact .inr ⟨hres.out, a, _, rfl, hPn.below hbn hPn.lt, grown_then hgn hbn hgn.size⟩
              · have hp1 : hasSub [46, 46] at0.data.toList = false := by simpa using hp
                have hp2 : hasSub (⟨#[46, 46]⟩ : ByteArray).data.toList at0.data.toList = false := hp1
                rw [hp2]
                rw [hp1, Bool.false_or] at hbad
                clear hp hp1 hp2
                go_wp2_with fail
                refine (Tryd.strings_HasSuffix at0 ⟨#[46]⟩ _ (by omega)).mono ?_
                rintro e w4 ⟨rfl, rfl⟩
                by_cases hp : Lib.hasSuffix at0.data.toList [46] = true
                · have hp2 : Lib.hasSuffix at0.data.toList (⟨#[46]⟩ : ByteArray).data.toList = true := hp
                  rw [hp2]
                  have hres := hidF (show atomRes s dot false = false by rw [hbad.out, hp]; rfl)
                  clear hp hp2
                  go_wp2_with fail
                  refine (errNew_any _ _).mono ?_
                  rintro e w4 ⟨a, rfl, hbn⟩
                  go_wp2_with fail
                  try rw [Exit.noGoto_ret]
                  go_ret2
                  exact .inr ⟨hres.out, a, _, rfl, hPn.below hbn hPn.lt, grown_then hgn hbn hgn.size⟩
                · have hp1 : Lib.hasSuffix at0.data.toList [46] = false := by simpa using hp
                  have hp2 : Lib.hasSuffix at0.data.toList (⟨#[46]⟩ : ByteArray).data.toList = false := hp1
                  rw [hp2]
                  have hres := hidF (show atomRes s dot false = true by rw [hbad.out, hp1]; rfl)
                  clear hp hp1 hp2
                  go_wp2_with fail
                  try rw [Exit.noGoto_ret]
                  go_ret2
                  exact .inl ⟨hres.out, by rw [hrk.out, ← Hat1.out]; rfl, by rw [hrk.out]; exact hPn, hgn⟩
        · rw [if_neg hne, hd]
          have hat := hidF (isAtext_any (r : Int) dot w1)
          have Hat0 := hidF hat0
          have e2 : ((r : Int) == 65533) = false := beq_eq_false_iff_ne.2 (by omega)
          clear hne hd hat0 hr3
          go_wp2_with fail
          refine hat.out.mono ?_
          rintro e w2 ⟨rfl, rfl⟩
          rw [Hat0.out]
          clear hat Hat0
          go_wp2_with fail
          go_region
          have hPn : PAt b (mkB (s.data.toList.drop k)) (w1.setCell ⟨b, 0, none⟩ (.string (mkB (s.data.toList.drop k)))).drew := hP1.put _
          have hgn : w.grownBy (w1.setCell ⟨b, 0, none⟩ (.string (mkB (s.data.toList.drop k)))).drew (some b) := grown_trans (grown_below hb2 (Nat.le_refl _) _) (grown_set_drew _ _ _)
          generalize (w1.setCell ⟨b, 0, none⟩ (.string (mkB (s.data.toList.drop k)))).drew = wn at hPn hgn ⊢
          clear hc1 hf1 hx hx2 hP1 hb1 hb2 hPr
          obtain ⟨at0, hat0⟩ : ∃ at0, at0 = mkB (s.data.toList.take k) := ⟨_, rfl⟩
          rw [← hat0]
          have hatl : at0.data.toList = s.data.toList.take k := by rw [hat0, mkB_list]
          have hats : at0.size ≤ 1000000000 := by rw [hat0, size_mkB, List.length_take]; omega
          have Hat1 := hidF hat0
          have Hatl := hidF hatl
          clear hat0 hatl
          cases perm with
          | true =>
            have hres := hidF (show atomRes s dot true = true by unfold atomRes; rw [hrk.out, decide_eq_true (by omega)]; rfl)
            go_wp2_with fail
            try rw [Exit.noGoto_ret]
            go_ret2
            exact .inl ⟨hres.out, by rw [hrk.out, ← Hat1.out]; rfl, by rw [hrk.out]; exact hPn, hgn⟩
          | false =>
            have hbad := hidF (show atomRes s dot false = !(Lib.hasPrefix at0.data.toList [46] || hasSub [46, 46] at0.data.toList || Lib.hasSuffix at0.data.toList [46]) by unfold atomRes dotBad; rw [hrk.out, decide_eq_true (by omega), Hatl.out]; rfl)
            go_wp2_with fail
            refine (Tryd.strings_HasPrefix at0 ⟨#[46]⟩ _).mono ?_
            rintro e w3 ⟨rfl, rfl⟩
            by_cases hp : Lib.hasPrefix at0.data.toList [46] = true
            · have hp2 : Lib.hasPrefix at0.data.toList (⟨#[46]⟩ : ByteArray).data.toList = true := hp
              rw [hp2]
              have hres := hidF (show atomRes s dot false = false by rw [hbad.out, hp]; rfl)
              clear hp hp2
              go_wp2_with fail
              refine (errNew_any _ _).mono ?_
              rintro e w4 ⟨a, rfl, hbn⟩
              go_wp2_with fail
              try rw [Exit.noGoto_ret]
              go_ret2
              exact .inr ⟨hres.out, a, _, rfl, hPn.below hbn hPn.lt, grown_then hgn hbn hgn.size⟩
            · have hp1 : Lib.hasPrefix at0.data.toList [46] = false := by simpa using hp
              have hp2 : Lib.hasPrefix at0.data.toList (⟨#[46]⟩ : ByteArray).data.toList = false := hp1
              rw [hp2]
              rw [hp1, Bool.false_or] at hbad
              clear hp hp1 hp2
              go_wp2_with fail
              refine (zzContains_any at0 ⟨#[46, 46]⟩ _ (by omega) (by decide)).mono ?_
              rintro e w4 ⟨rfl, rfl⟩
              by_cases hp : hasSub [46, 46] at0.data.toList = true
              · have hp2 : hasSub (⟨#[46, 46]⟩ : ByteArray).data.toList at0.data.toList = true := hp
                rw [hp2]
                have hres := hidF (show atomRes s dot false = false by rw [hbad.out, hp]; rfl)
                clear hp hp2
                go_wp2_with fail
                refine (errNew_any _ _).mono ?_
                rintro e w4 ⟨a, rfl, hbn⟩
                go_wp2_with fail
                try rw [Exit.noGoto_ret]
                go_ret2
                exact .inr ⟨hres.out, a, _, rfl, hPn.below hbn hPn.lt, grown_then hgn hbn hgn.size⟩
              · have hp1 : hasSub [46, 46] at0.data.toList = false := by simpa using hp
                have hp2 : hasSub (⟨#[46, 46]⟩ : ByteArray).data.toList at0.data.toList = false := hp1
                rw [hp2]
                rw [hp1, Bool.false_or] at hbad
                clear hp hp1 hp2
                go_wp2_with fail
                refine (Tryd.strings_HasSuffix at0 ⟨#[46]⟩ _ (by omega)).mono ?_
                rintro e w4 ⟨rfl, rfl⟩
                by_cases hp : Lib.hasSuffix at0.data.toList [46] = true
                · have hp2 : Lib.hasSuffix at0.data.toList (⟨#[46]⟩ : ByteArray).data.toList = true := hp
                  rw [hp2]
                  have hres := hidF (show atomRes s dot false = false by rw [hbad.out, hp]; rfl)
                  clear hp hp2
                  go_wp2_with fail
                  refine (errNew_any _ _).mono ?_
                  rintro e w4 ⟨a, rfl, hbn⟩
                  go_wp2_with fail
                  try rw [Exit.noGoto_ret]
                  go_ret2
                  exact .inr ⟨hres.out, a, _, rfl, hPn.below hbn hPn.lt, grown_then hgn hbn hgn.size⟩
                · have hp1 : Lib.hasSuffix at0.data.toList [46] = false := by simpa using hp
                  have hp2 : Lib.hasSuffix at0.data.toList (⟨#[46]⟩ : ByteArray).data.toList = false := hp1
                  rw [hp2]
                  have hres := hidF (show atomRes s dot false = true by rw [hbad.out, hp1]; rfl)
                  clear hp hp1 hp2
                  go_wp2_with fail
                  try rw [Exit.noGoto_ret]
                  go_ret2
                  exact .inl ⟨hres.out, by rw [hrk.out, ← Hat1.out]; rfl, by rw [hrk.out]; exact hPn, hgn⟩

end Go.Proofs.YtolbedmmjennoaaDoor
