/- readHeader: the walk. Printed by wip/gen/rh.py. -/
import Derived.Test.YtddnjdapdcopgaaDoorHdL
import Derived.Deep.DeepCutAuto
namespace Go.Proofs.YtddnjdapdcopgaaDoor
open Go.RowKit
open Go.Maps (Keyed)
open Go.ChangeMaps Go.Maps Go.WideMaps

theorem ContR.len : ∀ {acc st fin : List UInt8} {o : Option (List UInt8)}, ContR acc st o fin → fin.length ≤ st.length := by
  intro acc st fin o h
  induction h with
  | stop acc st h => exact Nat.le_refl _
  | eof acc bl st h1 h2 h3 => simp
  | more acc bl st l t o fin h1 h2 h3 h4 h5 ih => have := h4.len; rw [List.length_append]; omega
theorem RclR.finLen {st kv fin : List UInt8} {b : Bool} (h : RclR st kv b fin) : fin.length ≤ st.length := by
  rcases h with ⟨_, _, rfl, _⟩ | ⟨_, l, t, hl, ⟨_, _, rfl⟩ | ⟨_, h⟩⟩
  · simp
  · have := hl.len; omega
  · have := hl.len; have := h.len; omega

theorem mkB_empty (l : List UInt8) : (mkB l).toList.isEmpty = l.isEmpty := by rw [Lib.toList_data]; rfl
theorem canonKey_both (a : List UInt8) (w : World) (hs : a.length ≤ 2147483647) :
    Calls Tryd.prog 29 #[.string (mkB a)] w fun e w' => (∃ s' : ByteArray, e = .returned (.string s') ∧ s'.size = a.length ∧ (a.all nameC = true → s' = mkB (canon a))) ∧ Below w.heap.size w w' := by
  by_cases hn : a.all nameC = true
  · refine (canonKey_name (mkB a) w hs hn).mono ?_
    rintro e w' ⟨rfl, hb⟩
    exact ⟨⟨_, rfl, canF_length a true, fun _ => rfl⟩, hb⟩
  · refine (canonKey_any (mkB a) w hs).mono ?_
    rintro e w' ⟨⟨s', rfl, h⟩, hb⟩
    exact ⟨⟨s', rfl, h, fun e => absurd e hn⟩, hb⟩

set_option maxHeartbeats 16000000 in
set_option maxRecDepth 100000 in
theorem readHeader_any (T : Nat) (c : BR) (st : List UInt8) (w : World) (hT : Ob w T 72 (tpS c (.slice none 0 0))) (hTn : T ∉ c.all) (h : BufQ c st w) (hst : st.length ≤ 1000000000) :
    Calls Tryd.prog 22 #[.pointer (some ⟨T, 0, none⟩)] w (HdOut T c st w) := by
  have hmm := @run_makeMap Tryd.prog
  have Hst := hidF hst
  have HQ0 := hidF h
  have hTl := hT.lt
  have q0 := hT.cell 0 _ rfl
  have HT0 := hidF hT
  have HTn := hidF hTn
  have hpk := hidF (fun W (k : Only [] w W) => Peek1_any c st W (HQ0.out.only k (by simp)))
  have hk1 : Only [] w (w.alloc (.map #[] 0)) := Only.of_below ((Below.refl _ _).alloc (Nat.le_refl _) _)
  have Hk1 := hidF hk1
  have hTA : TpAt T (w.heap.size + 1) c (.slice none 0 0) [] (w.alloc (.map #[] 0)) := ⟨hT.only hk1 (by simp), OwnB.nil _ _, fun x hx => by have := HQ0.out.lts x hx; omega, hTn, by omega, by simp⟩
  have HTA := hidF hTA
  have HXA := hidF (HdrX.made w (Value.slice none 0 0).ownBlock)
  clear hT hTn h hst hTA hk1
  go_enter Tryd.func22, Tryd.ntmps22
  go_wp2_with fail
  generalize w.alloc (.map #[] 0) = w1 at HTA HXA Hk1 ⊢
  refine (hpk.out _ Hk1.out).mono ?_
  rintro e w2 ⟨k2, hq2, hm⟩
  have HTA2 := hidF (HTA.out.own' k2)
  have HXA2 := hidF (HXA.out.read (T := T) (c := c) (bv := .slice none 0 0) (k2.mono (fun x hx => by simp [hx])) hTl (fun x hx => HQ0.out.lts x (own_all hx)) (fun g hg => by cases hg) (.inl rfl))
  have HO2 := hidF (show Only (T :: c.own) w w2 from (Hk1.out.mono (by simp)).trans (k2.mono (fun x hx => by simp [hx])))
  clear hpk k2 HTA HXA
  have hm2 : (∃ v, st = [] ∧ e = .returned (.tuple #[v, eofV c.eof])) ∨ (∃ x o cap, st.head? = some x ∧ e = .returned (.tuple #[.slice (some ⟨c.F, o, none⟩) 1 cap, .nilIface]) ∧ w2.cell? ⟨c.F, o, none⟩ = some (.int .u8 (x.toNat : Int))) := by
    cases st with
    | nil => obtain ⟨v, h⟩ := hm; exact .inl ⟨v, rfl, h⟩
    | cons x r => obtain ⟨o, cap, h, h2⟩ := hm; exact .inr ⟨x, o, cap, rfl, h, h2⟩
  clear hm
  rcases hm2 with ⟨v, h0, rfl⟩ | ⟨x, o, cap, h0, rfl, hcx⟩
  · have HB0 := hidF (show ∀ x, st.head? = some x → isBl x = false from fun x hx => by rw [h0] at hx; cases hx)
    have HR := hidF (show HdRel T c st w w.heap.size st.length w2 from ⟨_, _, [], st, HTA2.out, hq2, HXA2.out, HO2.out, rfl, (by simp), HB0.out, (by simp), fun _ _ _ h => h⟩)
    unfold eofV
    clear hq2 HTA2 HXA2 HO2 q0 h0
    go_wp2_with fail
    go_loopg [9, 10, 11, 12, 13, 14, 15] st.length (fun g v9 v10 v11 v12 v13 v14 v15 wr => Hid (HdRel T c st w w.heap.size g wr))
    case atStart => exact HR
    case round =>
      obtain ⟨bv, l, fs, t, hTr, hQr, hXr, hOr, hgr, hlr, hbr, hfr, hcr⟩ := hrel.out
      have htl : t.length ≤ 1000000000 := by have := Hst.out; omega
      have hrc := hidF (rcl_any T (w.heap.size + 1) c bv l t wr hTr hQr htl hbr)
      have HTr := hidF hTr
      have HXr := hidF hXr
      have HOr := hidF hOr
      have HPr := hidF (And.intro hgr (And.intro hlr hfr))
      have HCr := hidF hcr
      clear hTr hQr hXr hOr hgr hlr hbr hfr hcr hrel htl
      go_wp2_with fail
      refine hrc.out.mono ?_
      rintro e w3 ⟨⟨bv3, l3, hT3, hO3, hW3⟩, hcase⟩
      have HX3 := hidF (HXr.out.read hO3 (by have := HTr.out.tb; have := HT0.out.lt; omega) (fun x hx => by have := HQ0.out.lts x (own_all hx); omega) (fun g hg => by have := HTr.out.own.ownLt g hg; omega) hW3)
      have HO3 := hidF (HOr.out.fresh hO3 (fun x hx => by
        rcases List.mem_append.1 hx with h1 | h1
        · exact .inr h1
        · left
          have := HTr.out.own.ownLt x (Option.mem_toList.1 h1)
          omega))
      have HT3 := hidF hT3
      clear hT3 hO3 hW3 hrc
      rcases hcase with ⟨fin, rfl, hq, hr⟩ | ⟨kv, fin, rfl, hq, hle, hr⟩
      · have HF := hidF (show HdOut T c st w (.returned (.tuple #[.map (some w.heap.size), eofV c.eof])) w3 from
          ⟨_, fs, bv3, l3, fin, 1, _, rfl, Nat.le_refl _, HT3.out, HX3.out, hq, HO3.out, by
            have h1 := HPr.out
            have h2 : fin.length ≤ t.length := RclR.finLen hr
            omega, .inr (.inl ⟨rfl, rfl⟩), .inr ⟨HB0.out, HCr.out _ _ _ (HeadR.eof fs t fin hr)⟩⟩)
        unfold eofV at HF ⊢
        clear hq hr
        go_wp2_with fail
        go_ret2
        exact HF.out
      · by_cases hk0 : kv = []
        · subst hk0
          have HF := hidF (show HdOut T c st w (.returned (.tuple #[.map (some w.heap.size), .nilIface])) w3 from
            ⟨_, fs, bv3, l3, fin, 0, _, rfl, Nat.le_refl _, HT3.out, HX3.out, hq, HO3.out, by
              have h1 := HPr.out
              simp only [List.length_nil] at hle
              omega, .inl ⟨rfl, rfl⟩, .inr ⟨HB0.out, HCr.out _ _ _ (HeadR.fin fs t fin hr)⟩⟩)
          have hne : (mkB []).toList.isEmpty = true := by rw [mkB_empty]; rfl
          clear hq hr hle
          go_wp2_with fail
          go_ret2
          exact HF.out
        · have HK0 := hidF hk0
          have Hr := hidF hr
          have Hq := hidF hq
          have Hle := hidF hle
          have hne : (mkB kv).toList.isEmpty = false := by rw [mkB_empty]; cases kv with | nil => exact absurd rfl hk0 | cons _ _ => rfl
          have hkl : kv.length ≤ 1000000000 := by have := Hst.out; have := HPr.out; omega
          have hcol := hidF (colon_any kv w3 (by omega))
          have Hkl := hidF hkl
          clear hr hq hle hk0 hkl
          go_wp2_with fail
          refine hcol.out.mono ?_
          rintro e w4 ⟨hm, hb4⟩
          have k4 := Only.of_below hb4
          have HT4 := hidF (HT3.out.only k4 (by simp) (by simp))
          have HX4 := hidF (HX3.out.below k4)
          have HO4 := hidF (HO3.out.trans (k4.mono (by simp)))
          have Hq4 := hidF (Hq.out.only k4 (by simp))
          clear hcol hb4 k4 HT3 HX3 HO3 hne
          cases hcu : cutC kv with
          | none =>
            rw [hcu] at hm
            replace hm : e = _ := hm
            subst hm
            have Hcu := hidF hcu
            have hen := hidF (fun s => errNew_any s w4)
            clear hcu
            go_wp2_with fail
            refine (hen.out _).mono ?_
            rintro e w5 ⟨a, rfl, ha, hab, hb5⟩
            have k5 := Only.of_below hb5
            have HF := hidF (show HdOut T c st w (.returned (.tuple #[.map (some w.heap.size), eofV a])) w5 from
              ⟨_, fs, bv3, l3, fin, 2, _, rfl, Nat.le_refl _, HT4.out.only k5 (by simp) (by simp), HX4.out.below k5, Hq4.out.only k5 (by simp), HO4.out.trans (k5.mono (by simp)), by
                have h1 := HPr.out
                have h2 := Hle.out
                omega, .inr (.inr ⟨rfl, a, rfl, Nat.le_trans HO4.out.size ha, hab⟩), .inr ⟨HB0.out, HCr.out _ _ _ (HeadR.bad fs t kv fin Hr.out HK0.out Hcu.out)⟩⟩)
            unfold eofV at HF ⊢
            clear hen ha hab hb5 k5
            go_wp2_with fail
            go_ret2
            exact HF.out
          | some p =>
            obtain ⟨a, z⟩ := p
            rw [hcu] at hm
            replace hm : e = _ := hm
            subst hm
            have Hcu := hidF hcu
            have hal := cutC_len hcu
            have hkey := hidF (canonKey_both a w4 (by have := Hkl.out; omega))
            have hzl : z.length ≤ 2147483647 := by have := Hkl.out; omega
            have Hal := hidF hal
            have Hzl := hidF hzl
            clear hcu hal hzl
            go_wp2_with fail
            refine hkey.out.mono ?_
            rintro e w5 ⟨⟨s', rfl, hss, hsn⟩, hb5⟩
            have k5 := Only.of_below hb5
            have HT5 := hidF (HT4.out.only k5 (by simp) (by simp))
            have HX5 := hidF (HX4.out.below k5)
            have HO5 := hidF (HO4.out.trans (k5.mono (by simp)))
            have Hq5 := hidF (Hq4.out.only k5 (by simp))
            have Hss := hidF hss
            have Hsn := hidF hsn
            clear hkey hb5 k5 HT4 HX4 HO4 Hq4 hss hsn
            by_cases ha0 : a = []
            · have hne : s'.toList.isEmpty = true := by
                rw [Lib.toList_data]
                have : s'.data.toList.length = 0 := by rw [← size_of_list, Hss.out, ha0]; rfl
                rw [List.eq_nil_of_length_eq_zero this]; rfl
              have HRel := hidF (show HdRel T c st w w.heap.size fin.length w5 from ⟨_, _, fs, fin, HT5.out, Hq5.out, HX5.out, HO5.out, rfl, by have := HPr.out; have := Hle.out; omega, Hr.out.head HK0.out, HPr.out.2.2, fun res k f h => HCr.out res k f (HeadR.nokey fs t kv z fin res k f Hr.out (by rw [Hcu.out, ha0]) h)⟩)
              have hms : fin.length < gk := by
                have h1 := HPr.out
                have h2 := Hle.out
                have h3 := Hal.out
                omega
              clear ha0
              go_wp2_with fail
              go_roundg fin.length
              case measure => exact hms
              case rel => exact HRel
            · have hne : s'.toList.isEmpty = false := by
                rw [Lib.toList_data]
                have h1 : s'.data.toList.length = a.length := by rw [← size_of_list, Hss.out]
                have h2 := List.length_pos_iff.2 ha0
                cases hx : s'.data.toList with
                | nil => rw [hx] at h1; simp at h1; omega
                | cons _ _ => rfl
              have HA0 := hidF ha0
              have htl := hidF (tl_any z w5 Hzl.out)
              clear ha0
              go_wp2_with fail
              refine htl.out.mono ?_
              rintro e w6 ⟨rfl, hb6⟩
              have k6 := Only.of_below hb6
              have HT6 := hidF (HT5.out.only k6 (by simp) (by simp))
              have HX6 := hidF (HX5.out.below k6)
              have HO6 := hidF (HO5.out.trans (k6.mono (by simp)))
              have Hq6 := hidF (Hq5.out.only k6 (by simp))
              clear htl hb6 k6 HT5 HX5 HO5 Hq5
              obtain ⟨i0, hi0, hz0, hz1, hz2⟩ := info_parts infoString
              obtain ⟨D, val, hown, hIs, hat, hrow, hap, hav⟩ := HX6.out
              have hB : w.heap.size < w6.heap.size := hown.lt
              have hks : s'.size ≤ maxLen := by unfold maxLen; have := Hss.out; have := Hal.out; have := Hkl.out; omega
              have hlk : ∀ w' : World, w'.heap[w.heap.size]? = w6.heap[w.heap.size]? → (Instr.lookup 49 (.map (some w.heap.size)) (.string s') false).run Tryd.prog w' = .ok (val s') w' := fun w' hw' => by
                obtain ⟨x, ps, hrun, hx⟩ := (ownsMap_at hown hw').lookup keyedStr Tryd.underlying49 (show (zeroValue 31).run Tryd.prog w' = .ok nilV w' by kernel_rfl) (show rawR nilV = some (.held nilV, []) from rfl) (keyOf_str s' hks)
                rw [hat s'] at hx
                have : x = val s' := by simp [rawR] at hx; exact hx.1
                rw [← this]; exact hrun
              have hfl : fs.length ≤ 1000000000 := by have := Hst.out; have := HPr.out; omega
              have hup : ∀ (w1 : World) (v' : Value), w1.heap[w.heap.size]? = w6.heap[w.heap.size]? → ∃ w2, (Instr.mapUpdate 49 (.map (some w.heap.size)) (.string s') v').run Tryd.prog w1 = .ok () w2 ∧ w2.ownsMap Tryd.prog 9 rawR w.heap.size (fs.length + 1) (D.put (.string s'.data.toList) (.held v')) ∧ w1.grownBy w2 (some w.heap.size) := fun w1 v' hw' =>
                (ownsMap_at hown hw').update keyedStr Tryd.underlying49 (by unfold maxLen; omega) (keyOf_str s' hks) (show rawR v' = some (.held v', []) from rfl)
              have Hlk := hidF hlk
              have Hup := hidF hup
              have Hrow := hidF hrow
              have Hap := hidF hap
              have Hat := hidF hat
              have Hav := hidF hav
              have hvl := valsOf_length fs s'
              have hbase : w.heap.size + 1 ≤ w6.heap.size := by omega
              have Hne := hidF (show (val s').ownBlock ≠ some w.heap.size from by
                rcases lt_or (Hrow.out s') with h | ⟨g, h, hb⟩
                · rw [h]; simp
                · rw [h]; simp; omega)
              clear hlk hup hrow hap hat hav hks
              have hltB1 : w.heap.size < (w6.alloc (.cells #[.string (mkB (ltrim z))] 9)).heap.size := by simp; omega
              have hblk1 : (w6.alloc (.cells #[.string (mkB (ltrim z))] 9)).heap[w.heap.size]? = w6.heap[w.heap.size]? := Lib.alloc_old w6 _ _ hB
              have hlkA := Hlk.out w6 rfl
              have Hblk1 := hidF hblk1
              have HltB1 := hidF hltB1
              clear hblk1 hltB1
              go_wp2_with (refine wpList_append_lies _ rfl _ _ _ (by rfl) (w.heap.size + 1) 9 i0 _ 1 16 Tryd.underlying31 hi0 hz0 hz1 hz2 rfl (by omega) (val s') _ (valsOf fs s') (by rfl) ((Hrow.out s').alloc _) ⟨w6.heap.size, 0, none⟩ 1 1 [.string (mkB (ltrim z))] (by rfl) (by rfl) (World.news_of_block (cs := #[.string (mkB (ltrim z))]) (t := 9) (fr := (0, 0)) (heap_alloc_new w6 _)) (by simp [Value.oneCell']) (by omega) (by unfold maxLen; omega) (by omega) (by simp; omega) (w6.heap.size + 1) (by simp) ?_; intro gg cap2 w7 hown1 hgrow hwhere hlt; obtain ⟨w8, hrun2, hmap2, hg2⟩ := Hup.out w7 (.slice (some ⟨gg, 0, none⟩) ((valsOf fs s').length + 1) cap2) ((hgrow.block w.heap.size HltB1.out (Hne.out).symm).trans Hblk1.out); have HH1 := hidF hown1; have HH2 := hidF hgrow; have HH3 := hidF hwhere; have HH4 := hidF hmap2; have HH5 := hidF hg2; clear hown1 hgrow hwhere hmap2 hg2 hlt)
              have hgA : w6.grownBy w7 (val s').ownBlock := World.grownBy.trans (World.grownBy_alloc _ _ _) HH2.out
              have hlen2 : fin.length + 1 ≤ t.length ∧ s'.size ≤ 1000000000 := by
                have h2 := Hle.out
                have h3 := Hal.out
                have h4 := Hkl.out
                have h5 := Hss.out
                exact ⟨by omega, by omega⟩
              have HRel := hidF (show HdRel T c st w w.heap.size fin.length w8 from by
                have hX8 := HdrX.step (fs := fs) (n := fs.length) hIs Hat.out Hrow.out Hap.out hgA HH1.out (by
                  rcases HH3.out with h | h
                  · exact .inl h.symm
                  · exact .inr ⟨gg, rfl, by omega⟩) Hav.out (fun g hg => (HT6.out.own.lt g hg).2) HH4.out HH5.out
                have k1 := (Only.of_row hgA).mono (M := (val s').ownBlock.toList ++ [w.heap.size]) (fun x hx => List.mem_append.2 (.inl hx))
                have k2 := (Only.of_grown HH5.out).mono (M := (val s').ownBlock.toList ++ [w.heap.size]) (fun x hx => List.mem_append.2 (.inr hx))
                have k := k1.trans k2
                have hL : ∀ x, x ∈ (val s').ownBlock.toList ++ [w.heap.size] → w.heap.size ≤ x := fun x hx => by
                  rcases List.mem_append.1 hx with h1 | h1
                  · have := ((Hrow.out s').lt x (Option.mem_toList.1 h1)).1
                    omega
                  · have := List.mem_singleton.1 h1
                    omega
                refine ⟨bv3, l3, fs ++ [(s', mkB (ltrim z))], fin, HT6.out.only2 k (fun hx => ?_) (fun g hg hx => ?_), Hq6.out.only k (fun x hx h2 => ?_), by rw [List.length_append]; exact hX8, HO6.out.fresh k (fun x hx => .inl (hL x hx)), rfl, ?_, Hr.out.head HK0.out, fun q hq => ?_, fun res k f h => HCr.out res k f (HeadR.more fs t kv a z fin s' res k f Hr.out Hcu.out HA0.out Hss.out Hsn.out h)⟩
                · have := hL T hx
                  have := HT0.out.lt
                  omega
                · rcases List.mem_append.1 hx with h1 | h1
                  · rcases Hav.out s' with h3 | h3
                    · rw [h3] at h1; cases h1
                    · exact h3 ((Option.mem_toList.1 h1).trans hg.symm)
                  · have h3 := List.mem_singleton.1 h1
                    have := (HT6.out.own.lt g hg).1
                    omega
                · have := hL x hx
                  have := HQ0.out.lts x h2
                  omega
                · rw [List.length_append, List.length_singleton]
                  have := HPr.out
                  omega
                · rcases List.mem_append.1 hq with h1 | h1
                  · exact HPr.out.2.2 q h1
                  · rw [List.mem_singleton.1 h1]; exact hlen2.2)
              have hms : fin.length < gk := by
                have h1 := HPr.out
                omega
              clear hrun2 hgA hlen2
              go_wp2_with fail
              go_roundg fin.length
              case measure => exact hms
              case rel => exact HRel
  · have hrl := hidF (rl_any T c (.slice none 0 0) st w2 HTA2.out.ob HTA2.out.tno hq2 Hst.out)
    cases hbx : isBl x with
    | true =>
      have hor : x = 32 ∨ x = 9 := by
        unfold isBl at hbx
        rcases Bool.or_eq_true _ _ ▸ hbx with h | h
        · exact .inl (eq_of_beq h)
        · exact .inr (eq_of_beq h)
      have HBx := hidF hbx
      have H0 := hidF h0
      clear hbx h0 hq2
      rcases hor with rfl | rfl
      all_goals
        have e1 : ((32 : UInt8).toNat : Int) = 32 := rfl
        have e2 : ((9 : UInt8).toNat : Int) = 9 := rfl
        first | rw [e1] at hcx | rw [e2] at hcx
        clear e1 e2
        go_wp2_with fail
        refine hrl.out.mono ?_
        rintro e w3 ⟨k3, fin, s3, er, rfl, hq3, hfin, her⟩
        have HT3 := hidF (HTA2.out.own' k3)
        have HX3 := hidF (HXA2.out.read (T := T) (c := c) (bv := .slice none 0 0) (k3.mono (fun x hx => by simp [hx])) (by have := HT0.out.lt; omega) (fun x hx => HQ0.out.lts x (own_all hx)) (fun g hg => by cases hg) (.inl rfl))
        have HO3 := hidF (HO2.out.trans (k3.mono (fun x hx => by simp [hx])))
        have Hq3 := hidF hq3
        have hfl := hidF hfin
        clear hfin hrl k3 hq3 hcx HTA2 HXA2 HO2 q0
        rcases her with rfl | rfl
        · have hen := hidF (fun s => errNew_any s w3)
          go_wp2_with fail
          refine (hen.out _).mono ?_
          rintro e w5 ⟨a, rfl, ha, hab, hb5⟩
          have k5 := Only.of_below hb5
          have HF := hidF (show HdOut T c st w (.returned (.tuple #[.map (some w.heap.size), eofV a])) w5 from
            ⟨_, [], _, [], fin, 2, _, rfl, Nat.le_refl _, HT3.out.only k5 (by simp) (by simp), HX3.out.below k5, Hq3.out.only k5 (by simp), HO3.out.trans (k5.mono (by simp)), by
              have := hfl.out
              simp; omega, .inr (.inr ⟨rfl, a, rfl, Nat.le_trans HO3.out.size ha, hab⟩), .inl ⟨_, H0.out, HBx.out, rfl, .inr rfl⟩⟩)
          unfold eofV at HF ⊢
          clear hen ha hab hb5 k5
          go_wp2_with fail
          go_ret2
          exact HF.out
        · have HF := hidF (show HdOut T c st w (.returned (.tuple #[.map (some w.heap.size), eofV c.eof])) w3 from
            ⟨_, [], _, [], fin, 1, _, rfl, Nat.le_refl _, HT3.out, HX3.out, Hq3.out, HO3.out, by
              have := hfl.out
              simp; omega, .inr (.inl ⟨rfl, rfl⟩), .inl ⟨_, H0.out, HBx.out, rfl, .inl rfl⟩⟩)
          unfold eofV at HF ⊢
          go_wp2_with fail
          go_ret2
          exact HF.out
    | false =>
      have hnb := isBl_no hbx
      have HB0 := hidF (show ∀ y, st.head? = some y → isBl y = false from fun y hy => by rw [h0] at hy; obtain rfl := Option.some.inj hy; exact hbx)
      have HR := hidF (show HdRel T c st w w.heap.size st.length w2 from ⟨_, _, [], st, HTA2.out, hq2, HXA2.out, HO2.out, rfl, (by simp), HB0.out, (by simp), fun _ _ _ h => h⟩)
      obtain ⟨n32, n9⟩ := hnb
      clear hq2 HTA2 HXA2 HO2 q0 h0 hbx hrl
      go_wp2_with fail
      go_loopg [9, 10, 11, 12, 13, 14, 15] st.length (fun g v9 v10 v11 v12 v13 v14 v15 wr => Hid (HdRel T c st w w.heap.size g wr))
      case atStart => exact HR
      case round =>
        obtain ⟨bv, l, fs, t, hTr, hQr, hXr, hOr, hgr, hlr, hbr, hfr, hcr⟩ := hrel.out
        have htl : t.length ≤ 1000000000 := by have := Hst.out; omega
        have hrc := hidF (rcl_any T (w.heap.size + 1) c bv l t wr hTr hQr htl hbr)
        have HTr := hidF hTr
        have HXr := hidF hXr
        have HOr := hidF hOr
        have HPr := hidF (And.intro hgr (And.intro hlr hfr))
        have HCr := hidF hcr
        clear hTr hQr hXr hOr hgr hlr hbr hfr hcr hrel htl
        go_wp2_with fail
        refine hrc.out.mono ?_
        rintro e w3 ⟨⟨bv3, l3, hT3, hO3, hW3⟩, hcase⟩
        have HX3 := hidF (HXr.out.read hO3 (by have := HTr.out.tb; have := HT0.out.lt; omega) (fun x hx => by have := HQ0.out.lts x (own_all hx); omega) (fun g hg => by have := HTr.out.own.ownLt g hg; omega) hW3)
        have HO3 := hidF (HOr.out.fresh hO3 (fun x hx => by
          rcases List.mem_append.1 hx with h1 | h1
          · exact .inr h1
          · left
            have := HTr.out.own.ownLt x (Option.mem_toList.1 h1)
            omega))
        have HT3 := hidF hT3
        clear hT3 hO3 hW3 hrc
        rcases hcase with ⟨fin, rfl, hq, hr⟩ | ⟨kv, fin, rfl, hq, hle, hr⟩
        · have HF := hidF (show HdOut T c st w (.returned (.tuple #[.map (some w.heap.size), eofV c.eof])) w3 from
            ⟨_, fs, bv3, l3, fin, 1, _, rfl, Nat.le_refl _, HT3.out, HX3.out, hq, HO3.out, by
              have h1 := HPr.out
              have h2 : fin.length ≤ t.length := RclR.finLen hr
              omega, .inr (.inl ⟨rfl, rfl⟩), .inr ⟨HB0.out, HCr.out _ _ _ (HeadR.eof fs t fin hr)⟩⟩)
          unfold eofV at HF ⊢
          clear hq hr
          go_wp2_with fail
          go_ret2
          exact HF.out
        · by_cases hk0 : kv = []
          · subst hk0
            have HF := hidF (show HdOut T c st w (.returned (.tuple #[.map (some w.heap.size), .nilIface])) w3 from
              ⟨_, fs, bv3, l3, fin, 0, _, rfl, Nat.le_refl _, HT3.out, HX3.out, hq, HO3.out, by
                have h1 := HPr.out
                simp only [List.length_nil] at hle
                omega, .inl ⟨rfl, rfl⟩, .inr ⟨HB0.out, HCr.out _ _ _ (HeadR.fin fs t fin hr)⟩⟩)
            have hne : (mkB []).toList.isEmpty = true := by rw [mkB_empty]; rfl
            clear hq hr hle
            go_wp2_with fail
            go_ret2
            exact HF.out
          · have HK0 := hidF hk0
            have Hr := hidF hr
            have Hq := hidF hq
            have Hle := hidF hle
            have hne : (mkB kv).toList.isEmpty = false := by rw [mkB_empty]; cases kv with | nil => exact absurd rfl hk0 | cons _ _ => rfl
            have hkl : kv.length ≤ 1000000000 := by have := Hst.out; have := HPr.out; omega
            have hcol := hidF (colon_any kv w3 (by omega))
            have Hkl := hidF hkl
            clear hr hq hle hk0 hkl
            go_wp2_with fail
            refine hcol.out.mono ?_
            rintro e w4 ⟨hm, hb4⟩
            have k4 := Only.of_below hb4
            have HT4 := hidF (HT3.out.only k4 (by simp) (by simp))
            have HX4 := hidF (HX3.out.below k4)
            have HO4 := hidF (HO3.out.trans (k4.mono (by simp)))
            have Hq4 := hidF (Hq.out.only k4 (by simp))
            clear hcol hb4 k4 HT3 HX3 HO3 hne
            cases hcu : cutC kv with
            | none =>
              rw [hcu] at hm
              replace hm : e = _ := hm
              subst hm
              have Hcu := hidF hcu
              have hen := hidF (fun s => errNew_any s w4)
              clear hcu
              go_wp2_with fail
              refine (hen.out _).mono ?_
              rintro e w5 ⟨a, rfl, ha, hab, hb5⟩
              have k5 := Only.of_below hb5
              have HF := hidF (show HdOut T c st w (.returned (.tuple #[.map (some w.heap.size), eofV a])) w5 from
                ⟨_, fs, bv3, l3, fin, 2, _, rfl, Nat.le_refl _, HT4.out.only k5 (by simp) (by simp), HX4.out.below k5, Hq4.out.only k5 (by simp), HO4.out.trans (k5.mono (by simp)), by
                  have h1 := HPr.out
                  have h2 := Hle.out
                  omega, .inr (.inr ⟨rfl, a, rfl, Nat.le_trans HO4.out.size ha, hab⟩), .inr ⟨HB0.out, HCr.out _ _ _ (HeadR.bad fs t kv fin Hr.out HK0.out Hcu.out)⟩⟩)
              unfold eofV at HF ⊢
              clear hen ha hab hb5 k5
              go_wp2_with fail
              go_ret2
              exact HF.out
            | some p =>
              obtain ⟨a, z⟩ := p
              rw [hcu] at hm
              replace hm : e = _ := hm
              subst hm
              have Hcu := hidF hcu
              have hal := cutC_len hcu
              have hkey := hidF (canonKey_both a w4 (by have := Hkl.out; omega))
              have hzl : z.length ≤ 2147483647 := by have := Hkl.out; omega
              have Hal := hidF hal
              have Hzl := hidF hzl
              clear hcu hal hzl
              go_wp2_with fail
              refine hkey.out.mono ?_
              rintro e w5 ⟨⟨s', rfl, hss, hsn⟩, hb5⟩
              have k5 := Only.of_below hb5
              have HT5 := hidF (HT4.out.only k5 (by simp) (by simp))
              have HX5 := hidF (HX4.out.below k5)
              have HO5 := hidF (HO4.out.trans (k5.mono (by simp)))
              have Hq5 := hidF (Hq4.out.only k5 (by simp))
              have Hss := hidF hss
              have Hsn := hidF hsn
              clear hkey hb5 k5 HT4 HX4 HO4 Hq4 hss hsn
              by_cases ha0 : a = []
              · have hne : s'.toList.isEmpty = true := by
                  rw [Lib.toList_data]
                  have : s'.data.toList.length = 0 := by rw [← size_of_list, Hss.out, ha0]; rfl
                  rw [List.eq_nil_of_length_eq_zero this]; rfl
                have HRel := hidF (show HdRel T c st w w.heap.size fin.length w5 from ⟨_, _, fs, fin, HT5.out, Hq5.out, HX5.out, HO5.out, rfl, by have := HPr.out; have := Hle.out; omega, Hr.out.head HK0.out, HPr.out.2.2, fun res k f h => HCr.out res k f (HeadR.nokey fs t kv z fin res k f Hr.out (by rw [Hcu.out, ha0]) h)⟩)
                have hms : fin.length < gk := by
                  have h1 := HPr.out
                  have h2 := Hle.out
                  have h3 := Hal.out
                  omega
                clear ha0
                go_wp2_with fail
                go_roundg fin.length
                case measure => exact hms
                case rel => exact HRel
              · have hne : s'.toList.isEmpty = false := by
                  rw [Lib.toList_data]
                  have h1 : s'.data.toList.length = a.length := by rw [← size_of_list, Hss.out]
                  have h2 := List.length_pos_iff.2 ha0
                  cases hx : s'.data.toList with
                  | nil => rw [hx] at h1; simp at h1; omega
                  | cons _ _ => rfl
                have HA0 := hidF ha0
                have htl := hidF (tl_any z w5 Hzl.out)
                clear ha0
                go_wp2_with fail
                refine htl.out.mono ?_
                rintro e w6 ⟨rfl, hb6⟩
                have k6 := Only.of_below hb6
                have HT6 := hidF (HT5.out.only k6 (by simp) (by simp))
                have HX6 := hidF (HX5.out.below k6)
                have HO6 := hidF (HO5.out.trans (k6.mono (by simp)))
                have Hq6 := hidF (Hq5.out.only k6 (by simp))
                clear htl hb6 k6 HT5 HX5 HO5 Hq5
                obtain ⟨i0, hi0, hz0, hz1, hz2⟩ := info_parts infoString
                obtain ⟨D, val, hown, hIs, hat, hrow, hap, hav⟩ := HX6.out
                have hB : w.heap.size < w6.heap.size := hown.lt
                have hks : s'.size ≤ maxLen := by unfold maxLen; have := Hss.out; have := Hal.out; have := Hkl.out; omega
                have hlk : ∀ w' : World, w'.heap[w.heap.size]? = w6.heap[w.heap.size]? → (Instr.lookup 49 (.map (some w.heap.size)) (.string s') false).run Tryd.prog w' = .ok (val s') w' := fun w' hw' => by
                  obtain ⟨x, ps, hrun, hx⟩ := (ownsMap_at hown hw').lookup keyedStr Tryd.underlying49 (show (zeroValue 31).run Tryd.prog w' = .ok nilV w' by kernel_rfl) (show rawR nilV = some (.held nilV, []) from rfl) (keyOf_str s' hks)
                  rw [hat s'] at hx
                  have : x = val s' := by simp [rawR] at hx; exact hx.1
                  rw [← this]; exact hrun
                have hfl : fs.length ≤ 1000000000 := by have := Hst.out; have := HPr.out; omega
                have hup : ∀ (w1 : World) (v' : Value), w1.heap[w.heap.size]? = w6.heap[w.heap.size]? → ∃ w2, (Instr.mapUpdate 49 (.map (some w.heap.size)) (.string s') v').run Tryd.prog w1 = .ok () w2 ∧ w2.ownsMap Tryd.prog 9 rawR w.heap.size (fs.length + 1) (D.put (.string s'.data.toList) (.held v')) ∧ w1.grownBy w2 (some w.heap.size) := fun w1 v' hw' =>
                  (ownsMap_at hown hw').update keyedStr Tryd.underlying49 (by unfold maxLen; omega) (keyOf_str s' hks) (show rawR v' = some (.held v', []) from rfl)
                have Hlk := hidF hlk
                have Hup := hidF hup
                have Hrow := hidF hrow
                have Hap := hidF hap
                have Hat := hidF hat
                have Hav := hidF hav
                have hvl := valsOf_length fs s'
                have hbase : w.heap.size + 1 ≤ w6.heap.size := by omega
                have Hne := hidF (show (val s').ownBlock ≠ some w.heap.size from by
                  rcases lt_or (Hrow.out s') with h | ⟨g, h, hb⟩
                  · rw [h]; simp
                  · rw [h]; simp; omega)
                clear hlk hup hrow hap hat hav hks
                have hltB1 : w.heap.size < (w6.alloc (.cells #[.string (mkB (ltrim z))] 9)).heap.size := by simp; omega
                have hblk1 : (w6.alloc (.cells #[.string (mkB (ltrim z))] 9)).heap[w.heap.size]? = w6.heap[w.heap.size]? := Lib.alloc_old w6 _ _ hB
                have hlkA := Hlk.out w6 rfl
                have Hblk1 := hidF hblk1
                have HltB1 := hidF hltB1
                clear hblk1 hltB1
                go_wp2_with (refine wpList_append_lies _ rfl _ _ _ (by rfl) (w.heap.size + 1) 9 i0 _ 1 16 Tryd.underlying31 hi0 hz0 hz1 hz2 rfl (by omega) (val s') _ (valsOf fs s') (by rfl) ((Hrow.out s').alloc _) ⟨w6.heap.size, 0, none⟩ 1 1 [.string (mkB (ltrim z))] (by rfl) (by rfl) (World.news_of_block (cs := #[.string (mkB (ltrim z))]) (t := 9) (fr := (0, 0)) (heap_alloc_new w6 _)) (by simp [Value.oneCell']) (by omega) (by unfold maxLen; omega) (by omega) (by simp; omega) (w6.heap.size + 1) (by simp) ?_; intro gg cap2 w7 hown1 hgrow hwhere hlt; obtain ⟨w8, hrun2, hmap2, hg2⟩ := Hup.out w7 (.slice (some ⟨gg, 0, none⟩) ((valsOf fs s').length + 1) cap2) ((hgrow.block w.heap.size HltB1.out (Hne.out).symm).trans Hblk1.out); have HH1 := hidF hown1; have HH2 := hidF hgrow; have HH3 := hidF hwhere; have HH4 := hidF hmap2; have HH5 := hidF hg2; clear hown1 hgrow hwhere hmap2 hg2 hlt)
                have hgA : w6.grownBy w7 (val s').ownBlock := World.grownBy.trans (World.grownBy_alloc _ _ _) HH2.out
                have hlen2 : fin.length + 1 ≤ t.length ∧ s'.size ≤ 1000000000 := by
                  have h2 := Hle.out
                  have h3 := Hal.out
                  have h4 := Hkl.out
                  have h5 := Hss.out
                  exact ⟨by omega, by omega⟩
                have HRel := hidF (show HdRel T c st w w.heap.size fin.length w8 from by
                  have hX8 := HdrX.step (fs := fs) (n := fs.length) hIs Hat.out Hrow.out Hap.out hgA HH1.out (by
                    rcases HH3.out with h | h
                    · exact .inl h.symm
                    · exact .inr ⟨gg, rfl, by omega⟩) Hav.out (fun g hg => (HT6.out.own.lt g hg).2) HH4.out HH5.out
                  have k1 := (Only.of_row hgA).mono (M := (val s').ownBlock.toList ++ [w.heap.size]) (fun x hx => List.mem_append.2 (.inl hx))
                  have k2 := (Only.of_grown HH5.out).mono (M := (val s').ownBlock.toList ++ [w.heap.size]) (fun x hx => List.mem_append.2 (.inr hx))
                  have k := k1.trans k2
                  have hL : ∀ x, x ∈ (val s').ownBlock.toList ++ [w.heap.size] → w.heap.size ≤ x := fun x hx => by
                    rcases List.mem_append.1 hx with h1 | h1
                    · have := ((Hrow.out s').lt x (Option.mem_toList.1 h1)).1
                      omega
                    · have := List.mem_singleton.1 h1
                      omega
                  refine ⟨bv3, l3, fs ++ [(s', mkB (ltrim z))], fin, HT6.out.only2 k (fun hx => ?_) (fun g hg hx => ?_), Hq6.out.only k (fun x hx h2 => ?_), by rw [List.length_append]; exact hX8, HO6.out.fresh k (fun x hx => .inl (hL x hx)), rfl, ?_, Hr.out.head HK0.out, fun q hq => ?_, fun res k f h => HCr.out res k f (HeadR.more fs t kv a z fin s' res k f Hr.out Hcu.out HA0.out Hss.out Hsn.out h)⟩
                  · have := hL T hx
                    have := HT0.out.lt
                    omega
                  · rcases List.mem_append.1 hx with h1 | h1
                    · rcases Hav.out s' with h3 | h3
                      · rw [h3] at h1; cases h1
                      · exact h3 ((Option.mem_toList.1 h1).trans hg.symm)
                    · have h3 := List.mem_singleton.1 h1
                      have := (HT6.out.own.lt g hg).1
                      omega
                  · have := hL x hx
                    have := HQ0.out.lts x h2
                    omega
                  · rw [List.length_append, List.length_singleton]
                    have := HPr.out
                    omega
                  · rcases List.mem_append.1 hq with h1 | h1
                    · exact HPr.out.2.2 q h1
                    · rw [List.mem_singleton.1 h1]; exact hlen2.2)
                have hms : fin.length < gk := by
                  have h1 := HPr.out
                  omega
                clear hrun2 hgA hlen2
                go_wp2_with fail
                go_roundg fin.length
                case measure => exact hms
                case rel => exact HRel
end Go.Proofs.YtddnjdapdcopgaaDoor
