/- textproto's readLineSlice: the walk. -/
import Derived.Test.YtddnjdapdcopgaaDoorTp
namespace Go.Proofs.YtddnjdapdcopgaaDoor
open Go.RowKit

theorem chop_app {acc a t : List UInt8} {st' : List UInt8} (h13 : acc.getLast? = some 13 → st'.head? = some 13) (hst : st' = a ++ 10 :: t) : chop (acc ++ a) = acc ++ chop a := by
  unfold chop
  cases ha : a with
  | nil =>
    rw [List.append_nil]
    have : acc.getLast? ≠ some 13 := fun e => by
      have := h13 e
      rw [hst, ha] at this
      exact absurd (Option.some.inj this) (by decide)
    rw [if_neg this]; simp
  | cons x r =>
    rw [show (acc ++ x :: r).getLast? = (x :: r).getLast? by rw [List.getLast?_append, List.getLast?_eq_some_getLast (by simp)]; rfl]
    split
    · rw [List.dropLast_append_of_ne_nil (by simp)]
    · rfl
theorem slAt_buf {c : BR} {bf : List UInt8} {r wi i o n : Nat} {er : Value} {lb ls : Int} {w : World} {l : List UInt8} (h : BufAt c bf r wi i er lb ls w) (ht : (bf.drop o).take n = l) (hn : n = l.length) (ho : o + n ≤ 4096) : ∀ j x, l[j]? = some x → w.cell? ⟨c.F, o + j, none⟩ = some (.int .u8 (x.toNat : Int)) := fun j x hj =>
  buf_cell h (by rw [take_get ht (by have := (List.getElem?_eq_some_iff.1 hj).1; omega)]; exact hj)
theorem slAt_own {B : Nat} {v : Value} {l : List UInt8} {w : World} (h : OwnB B v l w) (hne : l ≠ []) : ∃ b, B ≤ b ∧ SlAt v l b w := by
  rcases h.row with ⟨_, h0⟩ | ⟨g, cap, rfl, hB, _, hn, _, hc⟩
  · exact absurd h0 hne
  · exact ⟨g, hB, 0, cap, rfl, hn, fun j x hj => by rw [Nat.zero_add]; exact (hc j x hj).1⟩
theorem add_cell {w : World} {b o : Nat} {l : List UInt8} (h : ∀ j x, l[j]? = some x → w.cell? ⟨b, o + j, none⟩ = some (.int .u8 (x.toNat : Int))) : ∀ j x, l[j]? = some x → w.cell? ((⟨b, o, none⟩ : Addr).add j) = some (.int .u8 (x.toNat : Int)) := fun j x hj => by
  rw [show (⟨b, o, none⟩ : Addr).add j = ⟨b, o + j, none⟩ from by unfold Addr.add; split <;> simp_all]
  exact h j x hj
/-- What an append to a line of one's own leaves alone. -/
theorem line_grown {c : BR} {w w1 w2 : World} {v : Value} {l : List UInt8} (hO : Only c.own w w1) (hown : OwnB w.heap.size v l w1) (hg : w1.grownBy w2 v.ownBlock) : Only c.own w w2 :=
  hO.fresh (Only.of_row hg) (fun x hx => .inl (hown.ownLt x (Option.mem_toList.1 hx)))
theorem bufQ_grown {c : BR} {st : List UInt8} {w1 w2 : World} {B : Nat} {v : Value} {l : List UInt8} (hq : BufQ c st w1) (hB : ∀ x, x ∈ c.all → x < B) (hown : OwnB B v l w1) (hg : w1.grownBy w2 v.ownBlock) : BufQ c st w2 :=
  hq.only (Only.of_row hg) (fun x hx h2 => by have h1 := hown.ownLt x (Option.mem_toList.1 hx); have h3 := hB x h2; omega)

set_option maxHeartbeats 8000000 in
set_option maxRecDepth 100000 in
theorem readLine_none (T : Nat) (c : BR) (bv : Value) (st : List UInt8) (w : World) (hT : Ob w T 72 (tpS c bv)) (hTn : T ∉ c.own) (h : BufQ c st w) (hst : st.length ≤ 1000000000) :
    Calls Tryd.prog 34 #[.pointer (some ⟨T, 0, none⟩), .int .i64 (-1)] w (LineOut c st w) := by
  have hcd := hidF (closeDot_any T c bv w hT)
  have HT := hidF hT
  have HTn := hidF hTn
  have HQ := hidF h
  have HL := hidF h.lts
  have Hst := hidF hst
  clear hT hTn h hst
  go_enter Tryd.func34, Tryd.ntmps34
  go_wp2_with fail
  refine hcd.out.mono ?_
  rintro e w0 ⟨rfl, rfl⟩
  clear hcd
  go_wp2_with fail
  go_loopg [4, 5, 6, 7, 8, 9] st.length (fun g v4 v5 lv lv2 mv ev wr => v4 = .slice none 0 0 ∧ v5 = .nilIface ∧ Hid (RlRel c st w g lv wr))
  case atStart => exact ⟨rfl, rfl, hidF ⟨[], st, OwnB.nil _ _, Only.refl _ _, HQ.out, rfl, by simp, by simp, rfl, fun _ => rfl⟩⟩
  case round =>
    obtain ⟨rfl, rfl, hR⟩ := hrel
    obtain ⟨acc, st', hown, hO, hq, hsta, hno, h13, hg, hnil⟩ := hR.out
    have qT := (HT.out.only hO HTn.out).cell 0 _ rfl
    have hrl := hidF (ReadLine_any c st' wr hq)
    have HO := hidF hO
    have Hsta := hidF hsta
    have Hno := hidF hno
    have H13 := hidF h13
    have HG := hidF hg
    have Hown := hidF hown
    have hlen : acc.length + st'.length ≤ 1000000000 := by rw [← List.length_append, ← hsta]; exact Hst.out
    have Hlen := hidF hlen
    have hrow := hown.row
    have heq := eql_sl_nil
    clear hR hO hq hsta hno h13 hg hown hlen
    rcases hrow with ⟨rfl, hacc⟩ | ⟨gb, capb, rfl, hgB, hgl, hgc, hgm, hgx⟩
    · subst hacc
      clear hnil
      have hst0 : st = st' := Hsta.out
      subst hst0
      go_wp2_with fail
      refine hrl.out.mono ?_
      rintro e w1 ⟨k1, hcase⟩
      have HO1 := hidF (HO.out.trans k1)
      clear k1 hrl qT
      rcases hcase with ⟨a, t, o, bf, r, wi, i, lb, ls, hb, rfl, hB, hstq, htk, hol⟩ | ⟨hs0, rfl, hq⟩ | ⟨hs0, hb, hl4, rfl, bf, r, wi, i, lb, ls, hB, hstq, htk⟩ | ⟨a, t, bf, r, wi, i, lb, ls, hsa, ha0, ha4, hano, ha13, rfl, hB, hstq, htk⟩
      · have HF := hidF (show LineOut c st w (.returned (.tuple #[.slice (some ⟨c.F, o, none⟩) (chop a).length (4096 - o), .nilIface])) w1 from by
          obtain ⟨e1, e2⟩ := brk_some hb
          have hcl := (chop_take a).1
          refine ⟨HO1.out, .inr ⟨chop a, t, _, c.F, ⟨bf, r, wi, i, lb, ls, hB, hstq⟩, ⟨o, 4096 - o, rfl, by omega, slAt_buf hB htk rfl hol⟩, .inl rfl, rfl, fun a2 t2 h2 => ?_, fun h2 => ?_, ?_, ?_⟩⟩
          · rw [hb] at h2
            injection h2 with h2
            injection h2 with h3 h4
            exact ⟨by rw [h3], h4⟩
          · rw [hb] at h2; cases h2
          · rw [e1, List.length_append, List.length_cons]; omega
          · rw [e1, List.length_append, List.length_cons]; omega)
        obtain ⟨n, hn⟩ : ∃ n, n = (chop a).length := ⟨_, rfl⟩
        rw [← hn] at HF ⊢
        have hnl : n ≤ 4096 := by omega
        clear hb hB hstq htk hol hn
        go_wp2_with fail
        go_ret2
        exact HF.out
      · have HF := hidF (show LineOut c st w (.returned (.tuple #[.slice none 0 0, eofV c.eof])) w1 from ⟨HO1.out, .inl ⟨by rw [hs0]; rfl, rfl, hq⟩⟩)
        unfold eofV at HF ⊢
        clear hs0 hq
        go_wp2_with fail
        go_ret2
        exact HF.out
      · have HF := hidF (show LineOut c st w (.returned (.tuple #[.slice (some ⟨c.F, 0, none⟩) st.length 4096, .nilIface])) w1 from by
          refine ⟨HO1.out, .inr ⟨st, [], _, c.F, ⟨bf, r, wi, i, lb, ls, hB, hstq⟩, ⟨0, 4096, rfl, hl4, slAt_buf hB htk rfl (by omega)⟩, .inl rfl, rfl, fun a2 t2 h2 => ?_, fun _ => ⟨rfl, rfl⟩, ?_, Nat.le_refl _⟩⟩
          · rw [hb] at h2; cases h2
          · exact List.length_pos_iff.2 hs0)
        obtain ⟨n, hn⟩ : ∃ n, n = st.length := ⟨_, rfl⟩
        rw [← hn] at HF hl4 ⊢
        clear hb hB hstq htk hs0 hn
        go_wp2_with fail
        go_ret2
        exact HF.out
      · have hcel := slAt_buf hB htk rfl (by omega)
        have Hq1 := hidF (show BufQ c t w1 from ⟨bf, r, wi, i, lb, ls, hB, hstq⟩)
        have Hcel := hidF (add_cell hcel)
        have Hown1 := hidF (OwnB.nil w.heap.size w1)
        have HA := hidF (And.intro hsa (And.intro ha0 (And.intro ha4 (And.intro hano ha13))))
        obtain ⟨n, hn⟩ : ∃ n, n = a.length := ⟨_, rfl⟩
        rw [← hn] at ha4 ⊢
        have HN := hidF hn
        have hsz : w.heap.size ≤ w1.heap.size := HO1.out.size
        clear hcel hB hstq htk hsa ha0 hano ha13 hn
        go_wp2_with (refine wpList_append_many rfl (.tmp 43) (.tmp 44) rfl w.heap.size _ [] a ⟨c.F, 0, none⟩ n 4096 w1 rfl Hown1.out rfl HN.out.symm Hcel.out (by rw [List.length_nil]; omega) hsz ?_; intro v' w2 hown2 hgr; have HOWN2 := hidF hown2; have HGR := hidF hgr.out; clear hown2 hgr)
        have hrel2 := hidF (show RlRel c st w t.length v' w2 from by
          obtain ⟨hsa, ha0, ha4, hano, ha13⟩ := HA.out
          exact ⟨a, t, HOWN2.out, line_grown HO1.out Hown1.out HGR.out, bufQ_grown Hq1.out HL.out Hown1.out HGR.out, hsa, hano, ha13, rfl, fun e => absurd e ha0⟩)
        have hlt : t.length < gk := by
          obtain ⟨hsa, ha0, _⟩ := HA.out
          have := congrArg List.length hsa
          rw [List.length_append] at this
          have := List.length_pos_iff.2 ha0
          have := HG.out
          omega
        go_roundg t.length
        case measure => exact hlt
        case rel => exact ⟨rfl, rfl, hrel2⟩
    · have hone : acc.length ≤ 1000000000 := by have := Hlen.out; omega
      obtain ⟨m, hm⟩ : ∃ m, m = acc.length := ⟨_, rfl⟩
      rw [← hm] at Hown hgc hone ⊢
      have HM := hidF hm
      have HNE := hidF (show acc ≠ [] from fun e => by have := hnil e; cases this)
      clear hgx hm hnil
      go_wp2_with fail
      refine hrl.out.mono ?_
      rintro e w1 ⟨k1, hcase⟩
      have HO1 := hidF (HO.out.trans k1)
      have Hown1 := hidF (show OwnB w.heap.size (.slice (some ⟨gb, 0, none⟩) m capb) acc w1 from Hown.out.only k1 (fun x hx => HL.out x (own_all hx)))
      have hsz : w.heap.size ≤ w1.heap.size := HO1.out.size
      clear k1 hrl qT
      rcases hcase with ⟨a, t, o, bf, r, wi, i, lb, ls, hb, rfl, hB, hstq, htk, hol⟩ | ⟨hs0, rfl, hq⟩ | ⟨hs0, hb, hl4, rfl, bf, r, wi, i, lb, ls, hB, hstq, htk⟩ | ⟨a, t, bf, r, wi, i, lb, ls, hsa, ha0, ha4, hano, ha13, rfl, hB, hstq, htk⟩
      · have Hcel := hidF (add_cell (slAt_buf hB htk rfl hol))
        have Hq1 := hidF (show BufQ c t w1 from ⟨bf, r, wi, i, lb, ls, hB, hstq⟩)
        have Hb := hidF hb
        obtain ⟨n, hn⟩ : ∃ n, n = (chop a).length := ⟨_, rfl⟩
        rw [← hn]
        have hnl : n ≤ 4096 := by omega
        have HN := hidF hn
        clear hb hB hstq htk hol hn
        go_wp2_with (refine wpList_append_many rfl (.tmp 43) (.tmp 44) rfl w.heap.size _ acc (chop a) ⟨c.F, o, none⟩ n (4096 - o) w1 rfl Hown1.out rfl HN.out.symm Hcel.out (by rw [← HM.out]; omega) hsz ?_; intro v' w2 hown2 hgr; have HOWN2 := hidF hown2; have HGR := hidF hgr.out; clear hown2 hgr)
        have HF := hidF (show LineOut c st w (.returned (.tuple #[v', .nilIface])) w2 from by
          have hne : acc ≠ [] := fun e => by
            exact HNE.out e
          obtain ⟨e1, e2⟩ := brk_some Hb.out
          have hbr : brk st = some (acc ++ a, t) := by rw [Hsta.out, brk_app Hno.out, Hb.out]; rfl
          have hch := chop_app H13.out e1
          obtain ⟨b, hbB, hsl⟩ := slAt_own HOWN2.out (by simp [hne])
          have hcl := (chop_take a).1
          have hls := congrArg List.length Hsta.out
          rw [e1] at hls
          rw [List.length_append, List.length_append, List.length_cons] at hls
          refine ⟨line_grown HO1.out Hown1.out HGR.out, .inr ⟨acc ++ chop a, t, v', b, bufQ_grown Hq1.out HL.out Hown1.out HGR.out, hsl, .inr hbB, rfl, fun a2 t2 h2 => ?_, fun h2 => ?_, by omega, by rw [List.length_append]; omega⟩⟩
          · rw [hbr] at h2
            injection h2 with h2
            injection h2 with h3 h4
            exact ⟨by rw [← h3, hch], h4⟩
          · rw [hbr] at h2; cases h2)
        go_wp2_with fail
        go_ret2
        exact HF.out
      · have HF := hidF (show LineOut c st w (.returned (.tuple #[.slice none 0 0, eofV c.eof])) w1 from ⟨HO1.out, .inl ⟨by rw [Hsta.out, hs0, List.append_nil]; exact brk_not Hno.out, rfl, hq⟩⟩)
        unfold eofV at HF ⊢
        clear hs0 hq
        go_wp2_with fail
        go_ret2
        exact HF.out
      · have Hcel := hidF (add_cell (slAt_buf hB htk rfl (by omega)))
        have Hq1 := hidF (show BufQ c [] w1 from ⟨bf, r, wi, i, lb, ls, hB, hstq⟩)
        have Hb := hidF hb
        have Hs0 := hidF hs0
        obtain ⟨n, hn⟩ : ∃ n, n = st'.length := ⟨_, rfl⟩
        rw [← hn] at hl4 ⊢
        have HN := hidF hn
        clear hb hB hstq htk hn hs0
        go_wp2_with (refine wpList_append_many rfl (.tmp 43) (.tmp 44) rfl w.heap.size _ acc st' ⟨c.F, 0, none⟩ n 4096 w1 rfl Hown1.out rfl HN.out.symm Hcel.out (by rw [← HM.out]; omega) hsz ?_; intro v' w2 hown2 hgr; have HOWN2 := hidF hown2; have HGR := hidF hgr.out; clear hown2 hgr)
        have HF := hidF (show LineOut c st w (.returned (.tuple #[v', .nilIface])) w2 from by
          have hbr : brk st = none := by rw [Hsta.out, brk_app Hno.out, Hb.out]; rfl
          obtain ⟨b, hbB, hsl⟩ := slAt_own HOWN2.out (by simp [Hs0.out])
          have hls := congrArg List.length Hsta.out
          rw [List.length_append] at hls
          have := List.length_pos_iff.2 Hs0.out
          refine ⟨line_grown HO1.out Hown1.out HGR.out, .inr ⟨acc ++ st', [], v', b, bufQ_grown Hq1.out HL.out Hown1.out HGR.out, hsl, .inr hbB, rfl, fun a2 t2 h2 => ?_, fun _ => ⟨rfl, Hsta.out.symm⟩, by simp; omega, by rw [List.length_append]; omega⟩⟩
          rw [hbr] at h2; cases h2)
        go_wp2_with fail
        go_ret2
        exact HF.out
      · have Hcel := hidF (add_cell (slAt_buf hB htk rfl (by omega)))
        have Hq1 := hidF (show BufQ c t w1 from ⟨bf, r, wi, i, lb, ls, hB, hstq⟩)
        have HA := hidF (And.intro hsa (And.intro ha0 (And.intro ha4 (And.intro hano ha13))))
        obtain ⟨n, hn⟩ : ∃ n, n = a.length := ⟨_, rfl⟩
        rw [← hn] at ha4 ⊢
        have HN := hidF hn
        clear hB hstq htk hsa ha0 hano ha13 hn
        go_wp2_with (refine wpList_append_many rfl (.tmp 43) (.tmp 44) rfl w.heap.size _ acc a ⟨c.F, 0, none⟩ n 4096 w1 rfl Hown1.out rfl HN.out.symm Hcel.out (by rw [← HM.out]; omega) hsz ?_; intro v' w2 hown2 hgr; have HOWN2 := hidF hown2; have HGR := hidF hgr.out; clear hown2 hgr)
        have hrel2 := hidF (show RlRel c st w t.length v' w2 from by
          obtain ⟨hsa, ha0, ha4, hano, ha13⟩ := HA.out
          refine ⟨acc ++ a, t, HOWN2.out, line_grown HO1.out Hown1.out HGR.out, bufQ_grown Hq1.out HL.out Hown1.out HGR.out, by rw [Hsta.out, hsa, List.append_assoc], by rw [List.mem_append, not_or]; exact ⟨Hno.out, hano⟩, fun h => ?_, rfl, fun e => absurd (List.append_eq_nil_iff.1 e).2 ha0⟩
          rw [show (acc ++ a).getLast? = a.getLast? by cases a with
            | nil => exact absurd rfl ha0
            | cons x r => rw [List.getLast?_append, List.getLast?_eq_some_getLast (by simp)]; rfl] at h
          exact ha13 h)
        have hlt : t.length < gk := by
          obtain ⟨hsa, ha0, _⟩ := HA.out
          have := congrArg List.length hsa
          rw [List.length_append] at this
          have := List.length_pos_iff.2 ha0
          have := HG.out
          omega
        go_roundg t.length
        case measure => exact hlt
        case rel => exact ⟨rfl, rfl, hrel2⟩
set_option maxHeartbeats 8000000 in
set_option maxRecDepth 100000 in
theorem readLine_lim (T : Nat) (c : BR) (bv : Value) (st : List UInt8) (lim : Int) (w : World) (hT : Ob w T 72 (tpS c bv)) (hTn : T ∉ c.own) (h : BufQ c st w) (hst : st.length ≤ 1000000000) (hlim : 4000000000 ≤ lim) :
    Calls Tryd.prog 34 #[.pointer (some ⟨T, 0, none⟩), .int .i64 lim] w (LineOut c st w) := by
  have hcd := hidF (closeDot_any T c bv w hT)
  have HT := hidF hT
  have HTn := hidF hTn
  have HQ := hidF h
  have HL := hidF h.lts
  have Hst := hidF hst
  have b0 : 0 ≤ lim := by omega
  clear hT hTn h hst
  go_enter Tryd.func34, Tryd.ntmps34
  go_wp2_with fail
  refine hcd.out.mono ?_
  rintro e w0 ⟨rfl, rfl⟩
  clear hcd
  go_wp2_with fail
  go_loopg [4, 5, 6, 7, 8, 9] st.length (fun g v4 v5 lv lv2 mv ev wr => v4 = .slice none 0 0 ∧ v5 = .nilIface ∧ Hid (RlRel c st w g lv wr))
  case atStart => exact ⟨rfl, rfl, hidF ⟨[], st, OwnB.nil _ _, Only.refl _ _, HQ.out, rfl, by simp, by simp, rfl, fun _ => rfl⟩⟩
  case round =>
    obtain ⟨rfl, rfl, hR⟩ := hrel
    obtain ⟨acc, st', hown, hO, hq, hsta, hno, h13, hg, hnil⟩ := hR.out
    have qT := (HT.out.only hO HTn.out).cell 0 _ rfl
    have hrl := hidF (ReadLine_any c st' wr hq)
    have HO := hidF hO
    have Hsta := hidF hsta
    have Hno := hidF hno
    have H13 := hidF h13
    have HG := hidF hg
    have Hown := hidF hown
    have hlen : acc.length + st'.length ≤ 1000000000 := by rw [← List.length_append, ← hsta]; exact Hst.out
    have Hlen := hidF hlen
    have hrow := hown.row
    have heq := eql_sl_nil
    clear hR hO hq hsta hno h13 hg hown hlen
    rcases hrow with ⟨rfl, hacc⟩ | ⟨gb, capb, rfl, hgB, hgl, hgc, hgm, hgx⟩
    · subst hacc
      clear hnil
      have hst0 : st = st' := Hsta.out
      subst hst0
      go_wp2_with fail
      refine hrl.out.mono ?_
      rintro e w1 ⟨k1, hcase⟩
      have HO1 := hidF (HO.out.trans k1)
      clear k1 hrl qT
      rcases hcase with ⟨a, t, o, bf, r, wi, i, lb, ls, hb, rfl, hB, hstq, htk, hol⟩ | ⟨hs0, rfl, hq⟩ | ⟨hs0, hb, hl4, rfl, bf, r, wi, i, lb, ls, hB, hstq, htk⟩ | ⟨a, t, bf, r, wi, i, lb, ls, hsa, ha0, ha4, hano, ha13, rfl, hB, hstq, htk⟩
      · have HF := hidF (show LineOut c st w (.returned (.tuple #[.slice (some ⟨c.F, o, none⟩) (chop a).length (4096 - o), .nilIface])) w1 from by
          obtain ⟨e1, e2⟩ := brk_some hb
          have hcl := (chop_take a).1
          refine ⟨HO1.out, .inr ⟨chop a, t, _, c.F, ⟨bf, r, wi, i, lb, ls, hB, hstq⟩, ⟨o, 4096 - o, rfl, by omega, slAt_buf hB htk rfl hol⟩, .inl rfl, rfl, fun a2 t2 h2 => ?_, fun h2 => ?_, ?_, ?_⟩⟩
          · rw [hb] at h2
            injection h2 with h2
            injection h2 with h3 h4
            exact ⟨by rw [h3], h4⟩
          · rw [hb] at h2; cases h2
          · rw [e1, List.length_append, List.length_cons]; omega
          · rw [e1, List.length_append, List.length_cons]; omega)
        obtain ⟨n, hn⟩ : ∃ n, n = (chop a).length := ⟨_, rfl⟩
        rw [← hn] at HF ⊢
        have hnl : n ≤ 4096 := by omega
        have b1 : ¬ lim < (n : Int) := by omega
        clear hb hB hstq htk hol hn
        go_wp2_with fail
        go_ret2
        exact HF.out
      · have HF := hidF (show LineOut c st w (.returned (.tuple #[.slice none 0 0, eofV c.eof])) w1 from ⟨HO1.out, .inl ⟨by rw [hs0]; rfl, rfl, hq⟩⟩)
        unfold eofV at HF ⊢
        clear hs0 hq
        go_wp2_with fail
        go_ret2
        exact HF.out
      · have HF := hidF (show LineOut c st w (.returned (.tuple #[.slice (some ⟨c.F, 0, none⟩) st.length 4096, .nilIface])) w1 from by
          refine ⟨HO1.out, .inr ⟨st, [], _, c.F, ⟨bf, r, wi, i, lb, ls, hB, hstq⟩, ⟨0, 4096, rfl, hl4, slAt_buf hB htk rfl (by omega)⟩, .inl rfl, rfl, fun a2 t2 h2 => ?_, fun _ => ⟨rfl, rfl⟩, ?_, Nat.le_refl _⟩⟩
          · rw [hb] at h2; cases h2
          · exact List.length_pos_iff.2 hs0)
        obtain ⟨n, hn⟩ : ∃ n, n = st.length := ⟨_, rfl⟩
        rw [← hn] at HF hl4 ⊢
        have b1 : ¬ lim < (n : Int) := by omega
        clear hb hB hstq htk hs0 hn
        go_wp2_with fail
        go_ret2
        exact HF.out
      · have hcel := slAt_buf hB htk rfl (by omega)
        have Hq1 := hidF (show BufQ c t w1 from ⟨bf, r, wi, i, lb, ls, hB, hstq⟩)
        have Hcel := hidF (add_cell hcel)
        have Hown1 := hidF (OwnB.nil w.heap.size w1)
        have HA := hidF (And.intro hsa (And.intro ha0 (And.intro ha4 (And.intro hano ha13))))
        obtain ⟨n, hn⟩ : ∃ n, n = a.length := ⟨_, rfl⟩
        rw [← hn] at ha4 ⊢
        have HN := hidF hn
        have hsz : w.heap.size ≤ w1.heap.size := HO1.out.size
        have b1 : ¬ lim < (n : Int) := by omega
        clear hcel hB hstq htk hsa ha0 hano ha13 hn
        go_wp2_with (refine wpList_append_many rfl (.tmp 43) (.tmp 44) rfl w.heap.size _ [] a ⟨c.F, 0, none⟩ n 4096 w1 rfl Hown1.out rfl HN.out.symm Hcel.out (by rw [List.length_nil]; omega) hsz ?_; intro v' w2 hown2 hgr; have HOWN2 := hidF hown2; have HGR := hidF hgr.out; clear hown2 hgr)
        have hrel2 := hidF (show RlRel c st w t.length v' w2 from by
          obtain ⟨hsa, ha0, ha4, hano, ha13⟩ := HA.out
          exact ⟨a, t, HOWN2.out, line_grown HO1.out Hown1.out HGR.out, bufQ_grown Hq1.out HL.out Hown1.out HGR.out, hsa, hano, ha13, rfl, fun e => absurd e ha0⟩)
        have hlt : t.length < gk := by
          obtain ⟨hsa, ha0, _⟩ := HA.out
          have := congrArg List.length hsa
          rw [List.length_append] at this
          have := List.length_pos_iff.2 ha0
          have := HG.out
          omega
        go_roundg t.length
        case measure => exact hlt
        case rel => exact ⟨rfl, rfl, hrel2⟩
    · have hone : acc.length ≤ 1000000000 := by have := Hlen.out; omega
      obtain ⟨m, hm⟩ : ∃ m, m = acc.length := ⟨_, rfl⟩
      rw [← hm] at Hown hgc hone ⊢
      have HM := hidF hm
      have HNE := hidF (show acc ≠ [] from fun e => by have := hnil e; cases this)
      clear hgx hm hnil
      go_wp2_with fail
      refine hrl.out.mono ?_
      rintro e w1 ⟨k1, hcase⟩
      have HO1 := hidF (HO.out.trans k1)
      have Hown1 := hidF (show OwnB w.heap.size (.slice (some ⟨gb, 0, none⟩) m capb) acc w1 from Hown.out.only k1 (fun x hx => HL.out x (own_all hx)))
      have hsz : w.heap.size ≤ w1.heap.size := HO1.out.size
      clear k1 hrl qT
      rcases hcase with ⟨a, t, o, bf, r, wi, i, lb, ls, hb, rfl, hB, hstq, htk, hol⟩ | ⟨hs0, rfl, hq⟩ | ⟨hs0, hb, hl4, rfl, bf, r, wi, i, lb, ls, hB, hstq, htk⟩ | ⟨a, t, bf, r, wi, i, lb, ls, hsa, ha0, ha4, hano, ha13, rfl, hB, hstq, htk⟩
      · have Hcel := hidF (add_cell (slAt_buf hB htk rfl hol))
        have Hq1 := hidF (show BufQ c t w1 from ⟨bf, r, wi, i, lb, ls, hB, hstq⟩)
        have Hb := hidF hb
        obtain ⟨n, hn⟩ : ∃ n, n = (chop a).length := ⟨_, rfl⟩
        rw [← hn]
        have hnl : n ≤ 4096 := by omega
        have HN := hidF hn
        have b1 : ¬ lim < (m : Int) + (n : Int) := by omega
        have b2 : IntKind.i64.wrap ((m : Int) + (n : Int)) = (m : Int) + (n : Int) := IntWalk.i64_in _ (by omega)
        clear hb hB hstq htk hol hn
        go_wp2_with (refine wpList_append_many rfl (.tmp 43) (.tmp 44) rfl w.heap.size _ acc (chop a) ⟨c.F, o, none⟩ n (4096 - o) w1 rfl Hown1.out rfl HN.out.symm Hcel.out (by rw [← HM.out]; omega) hsz ?_; intro v' w2 hown2 hgr; have HOWN2 := hidF hown2; have HGR := hidF hgr.out; clear hown2 hgr)
        have HF := hidF (show LineOut c st w (.returned (.tuple #[v', .nilIface])) w2 from by
          have hne : acc ≠ [] := fun e => by
            exact HNE.out e
          obtain ⟨e1, e2⟩ := brk_some Hb.out
          have hbr : brk st = some (acc ++ a, t) := by rw [Hsta.out, brk_app Hno.out, Hb.out]; rfl
          have hch := chop_app H13.out e1
          obtain ⟨b, hbB, hsl⟩ := slAt_own HOWN2.out (by simp [hne])
          have hcl := (chop_take a).1
          have hls := congrArg List.length Hsta.out
          rw [e1] at hls
          rw [List.length_append, List.length_append, List.length_cons] at hls
          refine ⟨line_grown HO1.out Hown1.out HGR.out, .inr ⟨acc ++ chop a, t, v', b, bufQ_grown Hq1.out HL.out Hown1.out HGR.out, hsl, .inr hbB, rfl, fun a2 t2 h2 => ?_, fun h2 => ?_, by omega, by rw [List.length_append]; omega⟩⟩
          · rw [hbr] at h2
            injection h2 with h2
            injection h2 with h3 h4
            exact ⟨by rw [← h3, hch], h4⟩
          · rw [hbr] at h2; cases h2)
        go_wp2_with fail
        go_ret2
        exact HF.out
      · have HF := hidF (show LineOut c st w (.returned (.tuple #[.slice none 0 0, eofV c.eof])) w1 from ⟨HO1.out, .inl ⟨by rw [Hsta.out, hs0, List.append_nil]; exact brk_not Hno.out, rfl, hq⟩⟩)
        unfold eofV at HF ⊢
        clear hs0 hq
        go_wp2_with fail
        go_ret2
        exact HF.out
      · have Hcel := hidF (add_cell (slAt_buf hB htk rfl (by omega)))
        have Hq1 := hidF (show BufQ c [] w1 from ⟨bf, r, wi, i, lb, ls, hB, hstq⟩)
        have Hb := hidF hb
        have Hs0 := hidF hs0
        obtain ⟨n, hn⟩ : ∃ n, n = st'.length := ⟨_, rfl⟩
        rw [← hn] at hl4 ⊢
        have HN := hidF hn
        have b1 : ¬ lim < (m : Int) + (n : Int) := by omega
        have b2 : IntKind.i64.wrap ((m : Int) + (n : Int)) = (m : Int) + (n : Int) := IntWalk.i64_in _ (by omega)
        clear hb hB hstq htk hn hs0
        go_wp2_with (refine wpList_append_many rfl (.tmp 43) (.tmp 44) rfl w.heap.size _ acc st' ⟨c.F, 0, none⟩ n 4096 w1 rfl Hown1.out rfl HN.out.symm Hcel.out (by rw [← HM.out]; omega) hsz ?_; intro v' w2 hown2 hgr; have HOWN2 := hidF hown2; have HGR := hidF hgr.out; clear hown2 hgr)
        have HF := hidF (show LineOut c st w (.returned (.tuple #[v', .nilIface])) w2 from by
          have hbr : brk st = none := by rw [Hsta.out, brk_app Hno.out, Hb.out]; rfl
          obtain ⟨b, hbB, hsl⟩ := slAt_own HOWN2.out (by simp [Hs0.out])
          have hls := congrArg List.length Hsta.out
          rw [List.length_append] at hls
          have := List.length_pos_iff.2 Hs0.out
          refine ⟨line_grown HO1.out Hown1.out HGR.out, .inr ⟨acc ++ st', [], v', b, bufQ_grown Hq1.out HL.out Hown1.out HGR.out, hsl, .inr hbB, rfl, fun a2 t2 h2 => ?_, fun _ => ⟨rfl, Hsta.out.symm⟩, by simp; omega, by rw [List.length_append]; omega⟩⟩
          rw [hbr] at h2; cases h2)
        go_wp2_with fail
        go_ret2
        exact HF.out
      · have Hcel := hidF (add_cell (slAt_buf hB htk rfl (by omega)))
        have Hq1 := hidF (show BufQ c t w1 from ⟨bf, r, wi, i, lb, ls, hB, hstq⟩)
        have HA := hidF (And.intro hsa (And.intro ha0 (And.intro ha4 (And.intro hano ha13))))
        obtain ⟨n, hn⟩ : ∃ n, n = a.length := ⟨_, rfl⟩
        rw [← hn] at ha4 ⊢
        have HN := hidF hn
        have b1 : ¬ lim < (m : Int) + (n : Int) := by omega
        have b2 : IntKind.i64.wrap ((m : Int) + (n : Int)) = (m : Int) + (n : Int) := IntWalk.i64_in _ (by omega)
        clear hB hstq htk hsa ha0 hano ha13 hn
        go_wp2_with (refine wpList_append_many rfl (.tmp 43) (.tmp 44) rfl w.heap.size _ acc a ⟨c.F, 0, none⟩ n 4096 w1 rfl Hown1.out rfl HN.out.symm Hcel.out (by rw [← HM.out]; omega) hsz ?_; intro v' w2 hown2 hgr; have HOWN2 := hidF hown2; have HGR := hidF hgr.out; clear hown2 hgr)
        have hrel2 := hidF (show RlRel c st w t.length v' w2 from by
          obtain ⟨hsa, ha0, ha4, hano, ha13⟩ := HA.out
          refine ⟨acc ++ a, t, HOWN2.out, line_grown HO1.out Hown1.out HGR.out, bufQ_grown Hq1.out HL.out Hown1.out HGR.out, by rw [Hsta.out, hsa, List.append_assoc], by rw [List.mem_append, not_or]; exact ⟨Hno.out, hano⟩, fun h => ?_, rfl, fun e => absurd (List.append_eq_nil_iff.1 e).2 ha0⟩
          rw [show (acc ++ a).getLast? = a.getLast? by cases a with
            | nil => exact absurd rfl ha0
            | cons x r => rw [List.getLast?_append, List.getLast?_eq_some_getLast (by simp)]; rfl] at h
          exact ha13 h)
        have hlt : t.length < gk := by
          obtain ⟨hsa, ha0, _⟩ := HA.out
          have := congrArg List.length hsa
          rw [List.length_append] at this
          have := List.length_pos_iff.2 ha0
          have := HG.out
          omega
        go_roundg t.length
        case measure => exact hlt
        case rel => exact ⟨rfl, rfl, hrel2⟩
end Go.Proofs.YtddnjdapdcopgaaDoor
