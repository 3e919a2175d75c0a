/- textproto's readContinuedLineSlice: the walk. -/
import Derived.Test.YtddnjdapdcopgaaDoorCslA
import Derived.Deep.DeepCutAuto
namespace Go.Proofs.YtddnjdapdcopgaaDoor
open Go.RowKit

/-- What it leaves: the buffer's row lies where it lay, or in new memory; nothing else has changed but the readers' blocks. -/
def Csl0 (T B : Nat) (c : BR) (bv0 : Value) (w w' : World) : Prop := ∃ bv l, TpAt T B c bv l w' ∧ Only (T :: c.own ++ bv0.ownBlock.toList) w w' ∧ Wh bv0 w.heap.size bv
def CslOut (T B : Nat) (c : BR) (bv0 : Value) (st : List UInt8) (w : World) (e : Ending) (w' : World) : Prop := Csl0 T B c bv0 w w' ∧
  ((∃ fin, e = .returned (.tuple #[.slice none 0 0, eofV c.eof]) ∧ BufQ c fin w' ∧ RclR st [] true fin) ∨
   (∃ v kv b fin, e = .returned (.tuple #[v, .nilIface]) ∧ SlAt v kv b w' ∧ BufQ c fin w' ∧ kv.length + fin.length ≤ st.length ∧ RclR st kv false fin))

theorem csl0_own {T B : Nat} {c : BR} {bv0 : Value} {l : List UInt8} {w w' : World} (h : TpAt T B c bv0 l w) (k : Only c.own w w') : Csl0 T B c bv0 w w' :=
  ⟨bv0, l, h.own' k, k.mono (fun x hx => by simp [hx]), .inl rfl⟩
theorem slAt_only {v : Value} {l : List UInt8} {b : Nat} {w w' : World} {L : List Nat} (h : SlAt v l b w) (k : Only L w w') (hb : b ∉ L) : SlAt v l b w' := by
  obtain ⟨o, cap, h1, h2, h3⟩ := h
  exact ⟨o, cap, h1, h2, fun j x hj => k.cell hb (h3 j x hj)⟩
/-- The buffer's bytes are as they were, where its state is the same. -/
theorem slAt_bufd {v : Value} {l : List UInt8} {c : BR} {bf : List UInt8} {r r' wi wi' i i' : Nat} {er er' : Value} {lb lb' ls ls' : Int} {w w' : World} (h : SlAt v l c.F w) (h1 : BufAt c bf r wi i er lb ls w) (h2 : BufAt c bf r' wi' i' er' lb' ls' w') : SlAt v l c.F w' := by
  obtain ⟨o, cap, h3, h4, h5⟩ := h
  refine ⟨o, cap, h3, h4, fun j x hj => ?_⟩
  have := h5 j x hj
  rw [cell_of_row w _ _ _ _ _ h1.bb] at this
  rw [cell_of_row w' _ _ _ _ _ h2.bb]
  exact this
/-- '==' between a function and nil. -/
theorem eql_fn_nil (f : Fn) (W : World) : (binOp .eql 93 (.func f #[] #[]) .nilFunc).run Tryd.prog W = .ok (.bool false) W := by kernel_rfl

/-- A line has been read, it stays where it is. -/
def CsLine (T B : Nat) (c : BR) (bv0 : Value) (l0 l t : List UInt8) (b : Nat) (v : Value) (w wr : World) : Prop := TpAt T B c bv0 l0 wr ∧ Only c.own w wr ∧ BufQ c t wr ∧ SlAt v l b wr
/-- Where the gathering stands: acc is in the buffer. -/
def CsRel (T B : Nat) (c : BR) (bv0 : Value) (a0 t0 : List UInt8) (M : Nat) (w : World) (g : Nat) (wr : World) : Prop :=
  ∃ acc bv t, TpAt T B c bv acc wr ∧ Only (T :: c.own ++ bv0.ownBlock.toList) w wr ∧ Wh bv0 w.heap.size bv ∧ BufQ c t wr ∧ acc ≠ [] ∧ acc.length + t.length ≤ M ∧ g = t.length ∧
    (∀ o fin, ContR acc t o fin → ContR a0 t0 o fin)

/-- An append of a new byte to the buffer: what is known ahead of the store, and past it. -/
theorem cs_app {T B : Nat} {c : BR} {bv0 bv v' : Value} {acc acc' t : List UInt8} {w w5 wa : World} (o : Obj) (hT : TpAt T B c bv acc w5) (hO : Only (T :: c.own ++ bv0.ownBlock.toList) w w5) (hW : Wh bv0 w.heap.size bv) (hq : BufQ c t w5)
    (hg : (w5.alloc o).grownBy wa bv.ownBlock) (ho : OwnB B v' acc' wa) (hwh : v'.ownBlock = bv.ownBlock ∨ v'.ownBlock = some (w5.alloc o).heap.size) :
    Ob wa T 72 (tpS c bv) ∧ TpAt T B c v' acc' (wa.setCell ⟨T, 2, none⟩ v') ∧ Only (T :: c.own ++ bv0.ownBlock.toList) w (wa.setCell ⟨T, 2, none⟩ v') ∧ Wh bv0 w.heap.size v' ∧ BufQ c t (wa.setCell ⟨T, 2, none⟩ v') := by
  have k : Only [] w5 (w5.alloc o) := Only.of_below ((Below.refl _ _).alloc (Nat.le_refl _) _)
  have hT' := hT.only k (by simp) (by simp)
  refine ⟨hT'.ob.only (Only.of_row hg) (fun hx => by have := hT'.own.ownLt T (Option.mem_toList.1 hx); have := hT.tb; omega), ?_⟩
  exact tp_put hT' (hO.trans (k.mono (by simp))) hW (hq.only k (by simp)) hg rfl ho hwh

set_option maxHeartbeats 16000000 in
set_option maxRecDepth 100000 in
theorem csl_any (T B : Nat) (c : BR) (bv0 : Value) (l0 st : List UInt8) (w : World) (hT : TpAt T B c bv0 l0 w) (h : BufQ c st w) (hst : st.length ≤ 1000000000) (hh : ∀ x, st.head? = some x → isBl x = false) :
    Calls Tryd.prog 35 #[.pointer (some ⟨T, 0, none⟩), .int .i64 (-1), .func (.func 36) #[] #[]] w (CslOut T B c bv0 st w) := by
  have hrl := hidF (readLine_none T c bv0 st w hT.ob hT.tno h hst)
  have HT := hidF hT
  have HQ := hidF h
  have Hst := hidF hst
  have Hh := hidF hh
  have hfn := fun f W => eql_fn_nil f W
  clear hT h hst hh
  go_enter Tryd.func35, Tryd.ntmps35
  go_wp2_with fail
  refine hrl.out.mono ?_
  rintro e w1 ⟨k1, hcase⟩
  have HT1 := hidF (HT.out.own' k1)
  have K1 := hidF k1
  clear hrl k1
  rcases hcase with ⟨hb, rfl, hq⟩ | ⟨l, t, v, b, hq, hsl, hbF, rfl, hlr⟩
  · have HF := hidF (show CslOut T B c bv0 st w (.returned (.tuple #[.slice none 0 0, eofV c.eof])) w1 from ⟨csl0_own HT.out K1.out, .inl ⟨[], rfl, hq, .inl ⟨rfl, rfl, rfl, .inl hb⟩⟩⟩)
    unfold eofV at HF ⊢
    clear hb hq
    go_wp2_with fail
    go_ret2
    exact HF.out
  · have Hq := hidF hq
    have Hlr := hidF hlr
    have Hsl := hidF hsl
    obtain ⟨o, cap, rfl, hcap, hcel⟩ := hsl
    obtain ⟨n, hn⟩ : ∃ n, n = l.length := ⟨_, rfl⟩
    rw [← hn] at Hsl hcap ⊢
    have HN := hidF hn
    have HbF := hidF hbF
    have hnl : n ≤ 1000000000 := by rw [hn]; have := hlr.2.2.2; have := Hst.out; omega
    clear hq hlr hcel hn hbF
    by_cases hl0 : l = []
    · have hn0 : n = 0 := by rw [HN.out, hl0]; rfl
      have HF := hidF (show CslOut T B c bv0 st w (.returned (.tuple #[.slice (some ⟨b, o, none⟩) n cap, .nilIface])) w1 from
        ⟨csl0_own HT.out K1.out, .inr ⟨_, [], b, t, rfl, by rw [hl0] at Hsl; exact Hsl.out, Hq.out, by have := Hlr.out.2.2.1; simp; omega, .inr ⟨rfl, l, t, Hlr.out, .inl ⟨hl0, rfl, rfl⟩⟩⟩⟩)
      subst hn0
      clear hl0
      go_wp2_with fail
      go_ret2
      exact HF.out
    · have hnp : 0 < n := by rw [HN.out]; exact List.length_pos_iff.2 hl0
      have n1 : ((n : Int) == 0) = false := beq_eq_false_iff_ne.2 (by omega)
      have hnb : ∀ x, l.head? = some x → isBl x = false := fun x hx => Hh.out x (by rw [← Hlr.out.head hl0]; exact hx)
      have htn := trimB_ne hl0 hnb
      have Hl0 := hidF hl0
      have Htn := hidF htn
      have hnv := hidF (fun v => noValidation_any v w1)
      clear hl0 hnb htn
      go_wp2_with fail
      refine (hnv.out _).mono ?_
      rintro e w2 ⟨rfl, rfl⟩
      obtain ⟨bf, r, wi, i, lb, ls, hB, hstq⟩ := Hq.out
      have HB := hidF hB
      have Hstq := hidF hstq
      have hbu := hidF (Buffered_any c bf r wi i .nilIface lb ls w1 hB)
      have qT := HT1.out.ob.cell 0 _ rfl
      obtain ⟨q, hq⟩ : ∃ q, q = wi - r := ⟨_, rfl⟩
      rw [← hq] at hbu
      have Hqq := hidF hq
      clear hnv hB hstq hq
      go_wp2_with fail
      refine hbu.out.mono ?_
      rintro e w2 ⟨rfl, mm, rfl⟩
      have HT2 := hidF (show TpAt T B c bv0 l0 (w1.drewN mm) from HT1.out.own' (Only.drewN _ _ _))
      have K2 := hidF (show Only c.own w (w1.drewN mm) from K1.out.trans (Only.drewN _ _ _))
      have HB2 := hidF (HB.out.drewN mm)
      have Hsl2 := hidF (slAt_only Hsl.out (Only.drewN [] w1 mm) (by simp))
      clear hbu qT HT1 K1 HB Hsl Hq
      generalize w1.drewN mm = w2 at HT2 K2 HB2 Hsl2 ⊢
      have qT := HT2.out.ob.cell 0 _ rfl
      go_upto_if 42 with fail
      go_cut [8] (fun lv wc => lv = .slice (some ⟨b, o, none⟩) n cap ∧ Hid (CsLine T B c bv0 l0 l t b (.slice (some ⟨b, o, none⟩) n cap) w wc))
      case first =>
        have hrel0 := hidF (show CsLine T B c bv0 l0 l t b (.slice (some ⟨b, o, none⟩) n cap) w w2 from ⟨HT2.out, K2.out, ⟨bf, r, wi, i, lb, ls, HB2.out, Hstq.out⟩, Hsl2.out⟩)
        by_cases h2 : 1 < q
        · have h2i : (1 : Int) < (q : Int) := by omega
          have hpk := hidF (Peek_have c bf r wi i 2 lb ls w2 HB2.out (by omega) (by have := Hqq.out; omega))
          go_wp2_with fail
          refine hpk.out.mono ?_
          rintro e w3 ⟨rfl, k3, hB3⟩
          have HT3 := hidF (HT2.out.own' k3)
          have K3 := hidF (K2.out.trans k3)
          have HB3 := hidF hB3
          have Hsl3 := hidF (show SlAt (.slice (some ⟨b, o, none⟩) n cap) l b w3 from by
            rcases HbF.out with rfl | hbw
            · exact slAt_bufd Hsl2.out HB2.out hB3
            · exact slAt_only Hsl2.out k3 (fun hx => by have := HT.out.lo b (own_all hx); have := HT.out.sz; omega))
          have hrel3 := hidF (show CsLine T B c bv0 l0 l t b (.slice (some ⟨b, o, none⟩) n cap) w w3 from ⟨HT3.out, K3.out, ⟨bf, r, wi, i, -1, -1, hB3, Hstq.out⟩, Hsl3.out⟩)
          have hlen := hB3.len
          have hwb := hB3.wb
          have hrr : r + 1 < wi := by have := Hqq.out; omega
          obtain ⟨p0, hp0⟩ : ∃ x, x = bf[r]'(by omega) := ⟨_, rfl⟩
          obtain ⟨p1, hp1⟩ : ∃ x, x = bf[r + 1]'(by omega) := ⟨_, rfl⟩
          have hp0r : bf[r]? = some p0 := by rw [hp0, List.getElem?_eq_getElem]
          have hp1r : bf[r + 1]? = some p1 := by rw [hp1, List.getElem?_eq_getElem]
          have c0 := buf_cell hB3 hp0r
          have c1 := buf_cell hB3 hp1r
          have hth : t.head? = some p0 := by rw [← Hstq.out, bufQ_cons hp0r (by omega)]; rfl
          have Hth := hidF hth
          have hstop := hidF (show isBl p0 = false → CslOut T B c bv0 st w (.returned (.tuple #[.slice none 0 0, .nilIface])) w3 ∨ True from fun _ => .inr trivial)
          have hfin := hidF (show isBl p0 = false → ∀ v2, SlAt v2 (trimB l) b w3 → CslOut T B c bv0 st w (.returned (.tuple #[v2, .nilIface])) w3 from fun hb0 v2 hv2 =>
            ⟨csl0_own HT.out K3.out, .inr ⟨v2, trimB l, b, t, rfl, hv2, ⟨bf, r, wi, i, -1, -1, HB3.out, Hstq.out⟩, by have h1 := trimB_len l; have h2 := Hlr.out.len; omega, .inr ⟨rfl, l, t, Hlr.out, .inr ⟨Hl0.out, ContR.stop _ _ (fun y hy => by rw [Hth.out] at hy; obtain rfl := Option.some.inj hy; exact hb0)⟩⟩⟩⟩)
          have htr := hidF (trim_any _ l b w3 Hsl3.out (by rw [← HN.out]; exact hnl))
          have hlet := hidF (isLetter_any p0 w3)
          clear hpk k3 hB3 hlen hwb hrr hp0 hp1 hp0r hp1r hth hstop HT2 K2 HB2 Hsl2 qT
          go_wp2_with fail
          refine hlet.out.mono ?_
          rintro e w4 ⟨bb, rfl, hbb, rfl⟩
          have Hbb := hidF hbb
          clear hlet hbb
          cases bb with
          | true =>
            have Hbl := hidF (Hbb.out rfl)
            clear Hbb
            go_wp2_with fail
            refine htr.out.mono ?_
            rintro e w4 ⟨v2, rfl, hv2, rfl⟩
            have HF := hidF (hfin.out Hbl.out v2 hv2)
            clear hv2 htr hfin
            go_wp2_with fail
            go_ret2
            exact HF.out
          | false =>
            have k10 := (show p0 = 10 ∨ p0 ≠ 10 from Decidable.em _)
            rcases k10 with h10 | h10
            · have e10 : ((p0.toNat : Int) == 10) = true := by rw [h10]; rfl
              have Hn := hidF (show isBl p0 = false by rw [h10]; rfl)
              clear h10
              go_wp2_with fail
              refine htr.out.mono ?_
              rintro e w4 ⟨v2, rfl, hv2, rfl⟩
              have HF := hidF (hfin.out Hn.out v2 hv2)
              clear hv2 htr hfin
              go_wp2_with fail
              go_ret2
              exact HF.out
            · have e10 : ((p0.toNat : Int) == 10) = false := beq_eq_false_iff_ne.2 (fun e => h10 (UInt8.toNat_inj.1 (by have : (10 : UInt8).toNat = 10 := rfl; omega)))
              clear h10
              by_cases h13 : p0 = 13
              · have e13 : ((p0.toNat : Int) == 13) = true := by rw [h13]; rfl
                have Hn := hidF (show isBl p0 = false by rw [h13]; rfl)
                clear h13
                by_cases hp : p1 = 10
                · have ep : ((p1.toNat : Int) == 10) = true := by rw [hp]; rfl
                  clear hp
                  go_wp2_with fail
                  refine htr.out.mono ?_
                  rintro e w4 ⟨v2, rfl, hv2, rfl⟩
                  have HF := hidF (hfin.out Hn.out v2 hv2)
                  clear hv2 htr hfin
                  go_wp2_with fail
                  go_ret2
                  exact HF.out
                · have ep : ((p1.toNat : Int) == 10) = false := beq_eq_false_iff_ne.2 (fun e => hp (UInt8.toNat_inj.1 (by have : (10 : UInt8).toNat = 10 := rfl; omega)))
                  clear hp htr hfin
                  go_wp2_with fail
                  go_meet
                  exact ⟨rfl, hrel3⟩
              · have e13 : ((p0.toNat : Int) == 13) = false := beq_eq_false_iff_ne.2 (fun e => h13 (UInt8.toNat_inj.1 (by have : (13 : UInt8).toNat = 13 := rfl; omega)))
                clear h13 htr hfin
                go_wp2_with fail
                go_meet
                exact ⟨rfl, hrel3⟩
        · have h2i : ¬ (1 : Int) < (q : Int) := by omega
          go_wp2_with fail
          go_meet
          exact ⟨rfl, hrel0⟩
      case rest =>
        obtain ⟨rfl, hcs⟩ := hcut
        obtain ⟨hT3, hK3, hq3, hs3⟩ := hcs.out
        have HT3 := hidF hT3
        have HK3 := hidF hK3
        have Hq3 := hidF hq3
        have Hs3 := hidF hs3
        have hsl0 := hT3.own.slice
        clear hcs hT3 hK3 hq3 hs3 HT2 K2 HB2 Hsl2 qT
        obtain ⟨a0, c0, n0, rfl⟩ : ∃ a0 c0 n0, bv0 = .slice a0 n0 c0 := by
          obtain ⟨a, cc, h⟩ := hsl0
          exact ⟨a, cc, _, h⟩
        clear hsl0
        go_upto_region 15 with fail
        go_cut [8] (fun lv wd => Hid (CsRel T B c (.slice a0 n0 c0) (trimB l) t ((trimB l).length + t.length) w t.length wd))
        case first =>
          have q2 := HT3.out.ob.cell 2 _ rfl
          have Htr := hidF (trim_any _ l b wc.drew (slAt_only Hs3.out (Only.drewN [] wc 1) (by simp)) (by rw [← HN.out]; exact hnl))
          have Hon := hidF (show OwnB B (.slice a0 0 c0) [] wc.drew from HT3.out.own.zero)
          have Hsz := hidF (show B ≤ wc.drew.heap.size from HT3.out.sz)
          have hneT : T < wc.heap.size := HT3.out.ob.lt
          go_region_law ((first | (go_simp; go_at_call 45; refine Htr.out.mono ?_; rintro e wt ⟨vt, rfl, ⟨ot, ct, rfl, hct, hcl⟩, rfl⟩; have Hct := hidF (add_cell hcl); clear hct hcl) | (refine step_append_at rfl (.tmp 90) (.tmp 92) rfl B (.slice a0 0 c0) [] (trimB l) ⟨b, ot, none⟩ (trimB l).length ct _ (by rfl) Hon.out (by rfl) rfl Hct.out (by rw [List.length_nil]; have := trimB_len l; have := HN.out; omega) Hsz.out ?_; intro v' wa ho' hg' hwh; obtain ⟨av, nv, cv, rfl⟩ := ho'.form3; have HO' := hidF ho'; have HG' := hidF hg'.out; have HWh := hidF hwh.out; have HTa := hidF (HT3.out.ob.only ((Only.drewN [] wc 1).trans (Only.refl _ _)) (by simp)); have q2' := (HTa.out.only (Only.of_row hg'.out) (fun hx => by have := Hon.out.ownLt T (Option.mem_toList.1 hx); have := HT3.out.tb; omega)).cell 2 _ rfl; have f2' := (HTa.out.only (Only.of_row hg'.out) (fun hx => by have := Hon.out.ownLt T (Option.mem_toList.1 hx); have := HT3.out.tb; omega)).free 2; have hlt' : T < wa.heap.size := Nat.lt_of_lt_of_le hneT hg'.out.size; clear ho' hg' hwh)))
          all_goals
            have HRel := hidF (show CsRel T B c (.slice a0 n0 c0) (trimB l) t ((trimB l).length + t.length) w t.length (wa.setCell ⟨T, 2, none⟩ (.slice av nv cv)) from by
              obtain ⟨h1, h2, h3, h4⟩ := tp_put (bv0 := .slice a0 n0 c0) (HT3.out.own' (Only.drewN c.own wc 1)) ((HK3.out.mono (fun x hx => by simp [hx])).trans (Only.drewN _ wc 1)) (.inl rfl) (Hq3.out.only (Only.drewN [] wc 1) (by simp)) HG'.out (ownBlock_len _ _ _ _) HO'.out HWh.out
              exact ⟨trimB l, _, t, h1, h2, h3, h4, Htn.out, Nat.le_refl _, rfl, fun o fin h => h⟩)
            clear q2' f2' hlt'
            go_wp2_with fail
            go_meet
            exact HRel
        case rest =>
          have hM : (trimB l).length + t.length ≤ 1000000000 := by have h1 := trimB_len l; have h2 := Hlr.out.len; have := Hst.out; omega
          have HM := hidF hM
          obtain ⟨acc, bv, tt, hT4, hK4, hW4, hq4, hne4, hle4, hg4, hco4⟩ := hcut.out
          obtain ⟨a4, n4, c4, rfl⟩ := hT4.own.form3
          have hn4 : n4 = acc.length := by
            obtain ⟨x, y, h⟩ := hT4.own.slice
            injection h
          have hn4b : n4 ≤ 1000000000 := by omega
          have q2 := hT4.ob.cell 2 _ rfl
          obtain ⟨lim1, hlim1⟩ : ∃ x : Int, x = 9223372036854775807 - (n4 : Int) := ⟨_, rfl⟩
          have x1 : IntKind.i64.wrap (9223372036854775807 - (n4 : Int)) = lim1 := by rw [hlim1]; exact IntWalk.i64_in _ (by omega)
          have hlim2 : 9000000000000000000 ≤ lim1 ∧ lim1 ≤ 9223372036854775807 := by omega
          have Hlim := hidF hlim2
          have HcutR := hcut
          clear hT4 hK4 hW4 hq4 hne4 hle4 hg4 hco4 hn4 hlim1 hlim2 hM hcut HT3 HK3 Hq3 Hs3
          go_wp2_with fail
          go_loopg [6, 7, 13, 14] t.length (fun g v6 v7 v13 v14 wr => Hid (CsRel T B c (.slice a0 n0 c0) (trimB l) t ((trimB l).length + t.length) w g wr))
          case atStart => exact HcutR
          case round =>
            obtain ⟨acc, bv, tt, hT4, hK4, hW4, hq4, hne4, hle4, hg4, hco4⟩ := hrel.out
            obtain ⟨a5, n5, c5, rfl⟩ := hT4.own.form3
            have hn5 : n5 = acc.length := by
              obtain ⟨x, y, h⟩ := hT4.own.slice
              injection h
            have htl : tt.length ≤ 1000000000 := by have := HM.out; omega
            have hsk := hidF (skipSpace_any T c (.slice a5 n5 c5) tt wr hT4.ob hT4.tno hq4 htl)
            have HT4 := hidF hT4
            have HK4 := hidF hK4
            have HW4 := hidF hW4
            have HX4 := hidF (And.intro hne4 (And.intro hle4 (And.intro hg4 hn5)))
            have HC4 := hidF hco4
            clear hT4 hK4 hW4 hq4 hne4 hle4 hg4 hco4 hn5 htl hrel q2
            go_wp2_with fail
            refine hsk.out.mono ?_
            rintro e w5 ⟨k5, bl, t5, htt, hbl, hh5, rfl, hq5⟩
            have HT5 := hidF (HT4.out.own' k5)
            have HK5 := hidF (HK4.out.trans (k5.mono (fun x hx => by simp [hx])))
            have Hq5 := hidF hq5
            have Htt := hidF htt
            have Hbl := hidF hbl
            have Hh5 := hidF hh5
            clear hsk k5 htt hbl hh5 hq5
            obtain ⟨m5, hm5⟩ : ∃ m5, m5 = bl.length := ⟨_, rfl⟩
            rw [← hm5]
            have Hm5 := hidF hm5
            clear hm5
            by_cases hm0 : m5 = 0
            · subst hm0
              have hbl0 : bl = [] := List.eq_nil_of_length_eq_zero Hm5.out.symm
              have q2 := HT5.out.ob.cell 2 _ rfl
              have HF := hidF (show CslOut T B c (.slice a0 n0 c0) st w (.returned (.tuple #[.slice a5 n5 c5, .nilIface])) w5 from by
                have h1 := Htt.out
                rw [hbl0, List.nil_append] at h1
                obtain ⟨bb, hbB, hsl⟩ := slAt_own HT5.out.own HX4.out.1
                refine ⟨⟨_, acc, HT5.out, HK5.out, HW4.out⟩, .inr ⟨_, acc, bb, t5, rfl, hsl, Hq5.out, ?_, .inr ⟨rfl, l, t, Hlr.out, .inr ⟨Hl0.out, HC4.out _ _ (by rw [h1]; exact ContR.stop acc t5 Hh5.out)⟩⟩⟩⟩
                have h2 := HX4.out.2.1
                have h3 := trimB_len l
                have h4 := Hlr.out.len
                rw [h1] at h2
                omega)
              clear hbl0
              go_wp2_with fail
              go_ret2
              exact HF.out
            · have hm1 : (0 : Int) < (m5 : Int) := by omega
              have hbne : bl ≠ [] := fun e => hm0 (by rw [Hm5.out, e]; rfl)
              have Hbne := hidF hbne
              have q2 := HT5.out.ob.cell 2 _ rfl
              have hn5b : n5 + 1 ≤ 1000000001 := by
                obtain ⟨_, h2, _, h4⟩ := HX4.out
                have := HM.out
                omega
              have Hon5 := hidF (show OwnB B (.slice a5 n5 c5) acc (w5.alloc (.cells #[.int .u8 32] 5)) from HT5.out.own.below ((Below.refl _ _).alloc (Nat.le_refl _) _))
              have Hsz5 := hidF (show B ≤ (w5.alloc (.cells #[.int .u8 32] 5)).heap.size from Nat.le_trans HT5.out.sz (by simp))
              have Hcel5 := hidF (show ∀ j cc, ([32] : List UInt8)[j]? = some cc → (w5.alloc (.cells #[.int .u8 32] 5)).cell? ((⟨w5.heap.size, 0, none⟩ : Addr).add j) = some (.int .u8 (cc.toNat : Int)) from fun j cc hj => by
                match j, hj with
                | 0, hj =>
                  obtain rfl := Option.some.inj hj
                  simp [Addr.add])
              clear hm0 hbne
              go_wp2_with (refine wpList_append_at rfl (.tmp 112) (.tmp 113) rfl B (.slice a5 n5 c5) acc [32] ⟨w5.heap.size, 0, none⟩ 1 1 _ rfl Hon5.out rfl rfl Hcel5.out (by have := HX4.out.2.2.2; omega) Hsz5.out ?_; intro v' wa ho' hg' hwh; obtain ⟨av, nv, cv, rfl⟩ := ho'.form3; have HO' := hidF ho'; have HG' := hidF hg'.out; have HWh := hidF hwh.out; have HA := hidF (cs_app _ HT5.out HK5.out HW4.out Hq5.out HG'.out HO'.out HWh.out); have q2' := HA.out.1.cell 2 _ rfl; have f2' := HA.out.1.free 2; have hlt' := HA.out.1.lt; clear ho' hg' hwh; have h21 : ¬ (lim1 ≤ (nv : Int)) := (by obtain ⟨x, y, h⟩ := HO'.out.slice; injection h with h1 h2 h3; rw [List.length_append] at h2; have := HX4.out.2.2.2; have := Hlim.out; simp only [List.length_cons, List.length_nil] at h2; omega))
              obtain ⟨hA0, hT6, hO6, hW6, hq6⟩ := HA.out
              have hlen5 : t5.length ≤ 1000000000 := by
                have h1 := HX4.out.2.1
                have h2 := HM.out
                rw [Htt.out, List.length_append] at h1
                omega
              have hnv0 : nv = n5 + 1 := by
                obtain ⟨x, y, h⟩ := HO'.out.slice
                injection h with h1 h2 h3
                rw [List.length_append] at h2
                have := HX4.out.2.2.2
                simp only [List.length_cons, List.length_nil] at h2
                omega
              have hrl6 := hidF (readLine_lim T c (.slice av nv cv) t5 (wrap64 (lim1 - (nv : Int))) _ hT6.ob hT6.tno hq6 hlen5 (by
                have := Hlim.out
                unfold wrap64
                omega))
              have HT6 := hidF hT6
              have HO6 := hidF hO6
              have HW6 := hidF hW6
              have Hnv := hidF hnv0
              clear HA hA0 hT6 hO6 hW6 hq6 q2' f2' hlt' hlen5 hnv0 h21 q2 Hon5 Hsz5 Hcel5 HO' HG' HWh
              generalize wa.setCell ⟨T, 2, none⟩ (.slice av nv cv) = w6 at hrl6 HT6 HO6 ⊢
              refine hrl6.out.mono ?_
              rintro e w7 ⟨k7, hcase⟩
              have HT7 := hidF (HT6.out.own' k7)
              have HO7 := hidF (HO6.out.trans (k7.mono (fun x hx => by simp [hx])))
              clear hrl6 k7
              rcases hcase with ⟨hb, rfl, hq⟩ | ⟨l2, t6, v2, b2, hq, hsl, hbF2, rfl, hlr2⟩
              · have HF := hidF (show CslOut T B c (.slice a0 n0 c0) st w (.returned (.tuple #[.slice none 0 0, eofV c.eof])) w7 from
                  ⟨⟨_, _, HT7.out, HO7.out, HW6.out⟩, .inl ⟨[], rfl, hq, .inl ⟨rfl, rfl, rfl, .inr ⟨l, t, Hlr.out, Hl0.out, HC4.out _ _ (by rw [Htt.out]; exact ContR.eof acc bl t5 Hbne.out Hbl.out hb)⟩⟩⟩⟩)
                unfold eofV at HF ⊢
                clear hb hq
                go_wp2_with fail
                go_ret2
                exact HF.out
              · obtain ⟨o2, cap2, rfl, hcap2, hcel2⟩ := hsl
                obtain ⟨n2, hn2⟩ : ∃ n2, n2 = l2.length := ⟨_, rfl⟩
                have Hs7 := hidF (show SlAt (.slice (some ⟨b2, o2, none⟩) n2 cap2) l2 b2 w7 from ⟨o2, cap2, by rw [hn2], hcap2, hcel2⟩)
                rw [← hn2] at hcap2 ⊢
                have HN2 := hidF hn2
                have Hlr2 := hidF hlr2
                have Hq7 := hidF hq
                have hl2 : l2.length ≤ 1000000000 := by
                  have h1 := HX4.out.2.1
                  have h2 := HM.out
                  have h3 := hlr2.2.2.2
                  rw [Htt.out, List.length_append] at h1
                  omega
                have Hl2 := hidF hl2
                clear hcel2 hn2 hlr2 hq hbF2 hl2
                go_upto_region 26 with fail
                have q2 := HT7.out.ob.cell 2 _ rfl
                have Htr := hidF (trim_any _ l2 b2 w7.drew (slAt_only Hs7.out (Only.drewN [] w7 1) (by simp)) (by rw [← HN2.out] at *; exact Hl2.out))
                have Hon := hidF (show OwnB B (.slice av nv cv) (acc ++ [32]) w7.drew from HT7.out.own)
                have Hsz := hidF (show B ≤ w7.drew.heap.size from HT7.out.sz)
                have hneT : T < w7.heap.size := HT7.out.ob.lt
                go_region_law ((first | (go_simp; go_at_call 45; refine Htr.out.mono ?_; rintro e wt ⟨vt, rfl, ⟨ot, ct, rfl, hct, hcl⟩, rfl⟩; have Hct := hidF (add_cell hcl); clear hct hcl) | (refine step_append_at rfl (.tmp 144) (.tmp 146) rfl B (.slice av nv cv) (acc ++ [32]) (trimB l2) ⟨b2, ot, none⟩ (trimB l2).length ct _ (by rfl) Hon.out (by rfl) rfl Hct.out (by rw [List.length_append]; have h1 := trimB_len l2; have h2 := Hl2.out; have h3 := HX4.out.2.1; have h4 := HM.out; simp only [List.length_cons, List.length_nil]; omega) Hsz.out ?_; intro v' wa2 ho' hg' hwh; obtain ⟨av2, nv2, cv2, rfl⟩ := ho'.form3; have HO' := hidF ho'; have HG' := hidF hg'.out; have HWh := hidF hwh.out; have HTa := hidF (HT7.out.ob.only ((Only.drewN [] w7 1).trans (Only.refl _ _)) (by simp)); have q2' := (HTa.out.only (Only.of_row hg'.out) (fun hx => by have := Hon.out.ownLt T (Option.mem_toList.1 hx); have := HT7.out.tb; omega)).cell 2 _ rfl; have f2' := (HTa.out.only (Only.of_row hg'.out) (fun hx => by have := Hon.out.ownLt T (Option.mem_toList.1 hx); have := HT7.out.tb; omega)).free 2; have hlt' : T < wa2.heap.size := Nat.lt_of_lt_of_le hneT hg'.out.size; clear ho' hg' hwh)))
                all_goals
                  have HRel := hidF (show CsRel T B c (.slice a0 n0 c0) (trimB l) t ((trimB l).length + t.length) w t6.length (wa2.setCell ⟨T, 2, none⟩ (.slice av2 nv2 cv2)) from by
                    obtain ⟨h1, h2, h3, h4⟩ := tp_put (bv0 := .slice a0 n0 c0) (HT7.out.own' (Only.drewN c.own w7 1)) (HO7.out.trans (Only.drewN _ w7 1)) HW6.out (Hq7.out.only (Only.drewN [] w7 1) (by simp)) HG'.out rfl HO'.out HWh.out
                    refine ⟨_, _, t6, h1, h2, h3, h4, by simp, ?_, rfl, fun o fin h => HC4.out o fin ?_⟩
                    · have h5 := trimB_len l2
                      have h6 := Hlr2.out.len
                      have h7 := HX4.out.2.1
                      have h8 := List.length_pos_iff.2 Hbne.out
                      rw [Htt.out, List.length_append] at h7
                      rw [List.length_append, List.length_append, List.length_cons, List.length_nil]
                      omega
                    · rw [Htt.out]
                      exact ContR.more acc bl t5 l2 t6 o fin Hbne.out Hbl.out Hh5.out Hlr2.out (by simpa using h))
                  have hms : t6.length < gk := by
                    have h6 := Hlr2.out.2.2.1
                    have h7 := HX4.out.2.2.1
                    rw [Htt.out, List.length_append] at h7
                    omega
                  clear q2' f2' hlt'
                  go_wp2_with fail
                  go_roundg t6.length
                  case measure => exact hms
                  case rel => exact HRel
end Go.Proofs.YtddnjdapdcopgaaDoor
