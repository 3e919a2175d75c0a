/- consumeQuotedString over a quoted text: the walk. -/
import Derived.Test.YtolbedmmjennoaaDoorQText
import Derived.Test.YtolbedmmjennoaaDoorAtom
import Derived.StillTailTactics
import Derived.Deep.QuietTactic
import Derived.Deep.RegionHeld3
import Derived.BigQuiet
import Derived.WalkMore
import Derived.BigRegion
import Derived.OwnWalk
import Derived.WalkLawsBesides
namespace Go.Proofs.YtolbedmmjennoaaDoor
open Go.RowKit

theorem isWSP_any (r : Int) (w : World) :
    Calls Tryd.prog 22 #[.int .i32 r] w fun e w' => e = .returned (.bool (wspI r)) ∧ w = w' := by
  go_enter Tryd.func22, Tryd.ntmps22
  by_cases h1 : r = 32
  · subst h1
    go_wp2
    go_ret
    exact ⟨rfl, rfl⟩
  · have e1 : (r == 32) = false := beq_eq_false_iff_ne.2 h1
    have hv := hidF (show wspI r = (r == 9) by unfold wspI; rw [e1, Bool.false_or])
    go_wp2
    go_ret
    exact ⟨by rw [hv.out]; rfl, rfl⟩

theorem isQtext_any (r : Int) (w : World) :
    Calls Tryd.prog 31 #[.int .i32 r] w fun e w' => e = .returned (.bool (qtextI r)) ∧ w = w' := by
  by_cases h1 : r = 92
  · subst h1
    go_enter Tryd.func31, Tryd.ntmps31
    go_wp2_with fail
    go_ret
    exact ⟨rfl, rfl⟩
  · by_cases h2 : r = 34
    · subst h2
      go_enter Tryd.func31, Tryd.ntmps31
      go_wp2_with fail
      go_ret
      exact ⟨rfl, rfl⟩
    · have e1 : (r == 92) = false := beq_eq_false_iff_ne.2 h1
      have e2 : (r == 34) = false := beq_eq_false_iff_ne.2 h2
      have hv := hidF (show qtextI r = vcharI r by unfold qtextI; rw [if_neg h1, if_neg h2])
      clear h1 h2
      go_enter Tryd.func31, Tryd.ntmps31
      go_wp2_with fail
      refine (isVchar_any r w).mono ?_
      rintro e w1 ⟨rfl, rfl⟩
      go_wp2_with fail
      go_ret
      exact ⟨by rw [hv.out]; rfl, rfl⟩

/-- Where the loop of consumeQuotedString stands: rs are the runes taken so far; t is what the text still has, q what its quoted form still has; esc: a backslash has just been taken. -/
def QSt (l text z : List UInt8) (k : Nat) (rs : List Int) (esc : Bool) : Prop :=
  match esc with
  | false => ∃ t q, l.drop k = q ++ 34 :: z ∧ Esc t q ∧ Lib.validD t = true ∧ text = encodes rs ++ t
  | true => ∃ c t q, l.drop k = c :: (q ++ 34 :: z) ∧ c.toNat < 128 ∧ noCtl c ∧ Esc t q ∧ Lib.validD t = true ∧ text = encodes rs ++ c :: t

theorem encode_one (c : UInt8) (h : c.toNat < 128) : (Utf8.encode ((c.toNat : Nat) : Int)).data.toList = [c] := by
  have := encode_head [c] (by simp) (by rw [decode_ascii_l c [] h]; dsimp only; omega)
  rw [decode_ascii_l c [] h] at this
  dsimp only at this
  rw [this]; rfl

/-- One step: the end, a backslash, or a rune. -/
theorem QSt.step {l text z : List UInt8} {k : Nat} {rs : List Int} {esc : Bool} (h : QSt l text z k rs esc) :
    l.drop k ≠ [] ∧ ((esc = false ∧ Lib.decodeL (l.drop k) = (34, 1) ∧ text = encodes rs ∧ l.drop (k + 1) = z) ∨
    (esc = false ∧ Lib.decodeL (l.drop k) = (92, 1) ∧ QSt l text z (k + 1) rs true) ∨
    (∃ r sz : Nat, Lib.decodeL (l.drop k) = (r, sz) ∧ 1 ≤ sz ∧ k + sz ≤ l.length ∧ ¬ (sz = 1 ∧ r = 65533) ∧ ((esc = true → (vcharI (r : Int) || wspI (r : Int)) = true) ∧ (esc = false → (qtextI (r : Int) || wspI (r : Int)) = true)) ∧ QSt l text z (k + sz) (rs ++ [(r : Int)]) false)) := by
  cases esc with
  | true =>
    obtain ⟨c, t, q, h1, h2, h3, h4, h5, h6⟩ := h
    refine ⟨by rw [h1]; simp, .inr (.inr ⟨c.toNat, 1, by rw [h1, decode_ascii_l c _ h2], Nat.le_refl _, ?_, by omega, ⟨fun _ => vchar_ascii c h3 h2, (fun e => by cases e)⟩, ?_⟩)⟩
    · have := congrArg List.length h1
      simp at this; omega
    · refine ⟨t, q, by rw [← List.drop_drop, h1]; rfl, h4, h5, ?_⟩
      rw [encodes_append, h6, List.append_assoc]
      show encodes rs ++ c :: t = encodes rs ++ (((Utf8.encode ((c.toNat : Nat) : Int)).data.toList ++ []) ++ t)
      rw [encode_one c h2]; rfl
  | false =>
    obtain ⟨t, q, h1, h2, h3, h4⟩ := h
    refine ⟨by rw [h1]; simp, ?_⟩
    rcases quoted_step t q z h2 h3 with ⟨rfl, rfl⟩ | ⟨c, t', q', rfl, rfl, g1, g2, g3, g4⟩ | ⟨r, sz, g1, g2, g3, g4, g5, g6, g7, g8⟩
    · exact .inl ⟨rfl, by rw [h1]; exact decode_ascii_l 34 z (by decide), by rw [h4]; simp, by rw [← List.drop_drop, h1]; rfl⟩
    · exact .inr (.inl ⟨rfl, by rw [h1]; exact decode_ascii_l 92 _ (by decide), c, t', q', by rw [← List.drop_drop, h1]; rfl, g1, g2, g3, g4, h4⟩)
    · refine .inr (.inr ⟨r, sz, by rw [h1, g1], g2, ?_, g4, ⟨(fun e => by cases e), fun _ => g5⟩, ?_⟩)
      · have := congrArg List.length h1
        simp at this; omega
      · refine ⟨t.drop sz, q.drop sz, by rw [← List.drop_drop, h1, List.drop_append_of_le_length g3], g7, g8, ?_⟩
        rw [encodes_append, h4, List.append_assoc]
        show encodes rs ++ t = encodes rs ++ (((Utf8.encode (r : Int)).data.toList ++ []) ++ t.drop sz)
        rw [g6, List.append_nil, List.take_append_drop]

theorem rune_cells (rs : List Int) (r : Int) : rs.map (Value.int .i32) ++ [.int .i32 r] = (rs ++ [r]).map (Value.int .i32) := by simp
theorem rune_count (rs : List Int) (r : Int) : (rs ++ [r]).length = rs.length + 1 := by simp

/-- string(runes). -/
theorem runes_back {w : World} {B : Nat} {v : Value} {rs : List Int} (h : w.ownsRow B 21 1 v rs.length (rs.map (Value.int .i32))) : (convert 97 9 v).run Tryd.prog w = .ok (.string (mkB (encodes rs))) w := by
  obtain ⟨hlen, ⟨rfl, h0⟩ | ⟨g, cap, cur, rfl, hB, hcell, hn, hcap, hsz, htake⟩⟩ := h
  · rw [run_convert_runes_nil w 97 9 21 0 0 Tryd.underlying97 Tryd.underlying21 Tryd.underlying9]
    have : rs = [] := List.length_eq_zero_iff.1 h0
    rw [this]; rfl
  · have hrow : w.ownsRow B 21 1 (.slice (some ⟨g, 0, none⟩) rs.length cap) rs.length (rs.map (Value.int .i32)) := ⟨hlen, .inr ⟨g, cap, cur, rfl, hB, hcell, hn, hcap, hsz, htake⟩⟩
    rw [run_convert_runes w 97 9 21 ⟨g, 0, none⟩ rs.length cap rs (Nat.le_refl _) Tryd.underlying97 Tryd.underlying21 Tryd.underlying9 (fun j hj => by
      have := hrow.cells rfl j (.int .i32 (rs.getD j 0)) (by simp [List.getD, List.getElem?_eq_getElem hj])
      simpa using this), List.take_length, runesBytes_list]

theorem infoRune : (Tryd.prog.info? 21).map (fun i => (i.zero, i.size, i.bytes)) = some (some (.int .i32 0), 1, 4) := by kernel_rfl

set_option maxHeartbeats 4000000 in
set_option maxRecDepth 100000 in
theorem consumeQuoted_any (b : Nat) (s : ByteArray) (text q z : List UInt8) (w : World) (hP : PAt b s w) (hs : s.size ≤ 1000000000) (hq : s.data.toList = 34 :: (q ++ 34 :: z)) (hE : Esc text q) (hv : Lib.validD text = true) (hT : Lib.Utf8Tabs 0 1 w) :
    Calls Tryd.prog 48 #[.pointer (some ⟨b, 0, none⟩)] w fun e w' => e = .returned (.tuple #[.string (mkB text), .nilIface]) ∧ PAt b (mkB z) w' ∧ w.grownBy w' (some b) := by
  have hlt := hP.lt
  have Hsl := hidF (size_of_list s)
  have H0 := hidF (show QSt s.data.toList text z 1 [] false from ⟨text, q, by rw [hq]; rfl, hE, hv, rfl⟩)
  have hs1 : 1 ≤ s.size := by rw [Hsl.out, hq]; simp
  clear hq hE hv
  obtain ⟨i0, hi, hz0, hz1, hz2⟩ := info_parts infoRune
  go_enter Tryd.func48, Tryd.ntmps48
  go_wp2_with fail
  go_step3
  go_wp2_with (at_make; refine wpList_make_own _ rfl _ _ 97 rfl w.heap.size 21 i0 (.int .i32 0) 1 Tryd.underlying97 hi hz0 hz1 .i64 .i64 10 10 rfl rfl rfl (by rw [hz2]; decide) (by unfold maxLen; decide) (by simp) ?_; intro w1 hown hgrow)
  go_wp2_with fail
  go_step3
  go_wp2_with fail
  go_loopw [4, 5, 6] (fun iv qv ev wr => ∃ (k : Nat) (rs : List Int) (esc : Bool), k ≤ s.size ∧ iv = .int .i64 k ∧ ev = .bool esc ∧ wr.ownsRow w.heap.size 21 1 qv rs.length (rs.map (Value.int .i32)) ∧ rs.length ≤ k ∧ Below w.heap.size w wr ∧ Hid (QSt s.data.toList text z k rs esc)) (fun iv _ _ _ => s.size - (intOf iv).toNat)
  case atStart => exact ⟨1, [], false, hs1, rfl, rfl, hown, Nat.zero_le _, (Below.refl _ w).grown hgrow (Nat.le_refl _) (fun k hk => by cases hk), H0.out⟩
  case round =>
    obtain ⟨k, rs, esc, hk, rfl, rfl, hownr, hrk, hb, hst⟩ := hrel
    have hPr := hP.below hb hlt
    have hc := hPr.cell
    have hx := from_mkB s k
    have hTr := utf8_below hT hb
    have hdec := hidF (Tryd.utf8_DecodeRuneInString (mkB (s.data.toList.drop k)) wr hTr)
    go_wp2_with fail
    refine hdec.out.mono ?_
    rintro e w2 ⟨rfl, hb1⟩
    rw [decodeGo_mkB]
    have hb2 : Below w.heap.size w w2 := hb.trans (hb1.mono hb.size)
    have hown2 : w2.ownsRow w.heap.size 21 1 _ rs.length (rs.map (Value.int .i32)) := hownr.kept (grown_below hb1 (Nat.le_refl _) none) (Classical.em _)
    have hP1 := hP.below hb2 hlt
    have hc1 := hP1.cell
    have hf1 := hP1.free
    clear hdec hTr hc hownr
    obtain ⟨hne, hways⟩ := hst.out.step
    have hklt : k + 1 ≤ s.size := by
      rw [Hsl.out]
      rcases Nat.lt_or_ge k s.data.toList.length with h | h
      · exact h
      · exact absurd (List.drop_eq_nil_of_le h) hne
    rw [if_neg hne]
    rcases hways with ⟨rfl, hd, htx, hzz⟩ | ⟨rfl, hd, hnx⟩ | ⟨r, sz, hd, hsz, hks, hbad, hok, hnx⟩
    · rw [hd]
      replace htx := hidF htx
      replace hzz := hidF hzz
      clear hd hne
      have hqt := hidF (isQtext_any 34 w2)
      have hws := hidF (isWSP_any 34 w2)
      have hk1 : (k : Int) + 1 ≤ (s.size : Int) := by omega
      have hx1 := from_mkB s (k + 1)
      go_wp2_with fail
      refine hqt.out.mono ?_
      rintro e w3 ⟨rfl, rfl⟩
      rw [show qtextI 34 = false from rfl]
      go_wp2_with fail
      refine hws.out.mono ?_
      rintro e w3 ⟨rfl, rfl⟩
      rw [show wspI 34 = false from rfl]
      clear hqt hws
      have hPn : PAt b (mkB (s.data.toList.drop (k + 1))) (w2.setCell ⟨b, 0, none⟩ (.string (mkB (s.data.toList.drop (k + 1))))) := hP1.put _
      have hgn : w.grownBy (w2.setCell ⟨b, 0, none⟩ (.string (mkB (s.data.toList.drop (k + 1))))) (some b) := grown_trans (grown_below hb2 (Nat.le_refl _) _) (grown_set _ _ _)
      have hcv := runes_back (hown2.kept (grown_set w2 b (.string (mkB (s.data.toList.drop (k + 1))))) (.inr (fun e => by have := (hown2.lt b e).1; omega)))
      have Hgn := hidF hgn
      have HPn := hidF hPn
      clear hgn hPn
      go_wp2_with fail
      try rw [Exit.noGoto_ret]
      go_ret2
      exact ⟨by rw [htx.out]; rfl, by rw [← hzz.out]; exact HPn.out, Hgn.out⟩
    · rw [hd]
      replace hnx := hidF hnx
      clear hd hne
      have hqt := hidF (isQtext_any 92 w2)
      have hws := hidF (isWSP_any 92 w2)
      have hks := hklt
      go_wp2_with fail
      refine hqt.out.mono ?_
      rintro e w3 ⟨rfl, rfl⟩
      rw [show qtextI 92 = false from rfl]
      go_wp2_with fail
      refine hws.out.mono ?_
      rintro e w3 ⟨rfl, rfl⟩
      rw [show wspI 92 = false from rfl]
      clear hqt hws
      go_wp2_with fail
      go_roundw
      case rel => exact ⟨k + 1, rs, true, hks, by go_num, rfl, hown2, by omega, hb2, hnx.out⟩
      case measure => simp [intOf]; omega
    · rw [hd]
      replace hnx := hidF hnx
      clear hd hne
      have hks := hks
      rw [← Hsl.out] at hks
      have e0 : ((sz : Int) == 0) = false := beq_eq_false_iff_ne.2 (by omega)
      by_cases hs1 : sz = 1
      · have e1 : ((sz : Int) == 1) = true := beq_iff_eq.2 (by omega)
        have e2 : ((r : Int) == 65533) = false := beq_eq_false_iff_ne.2 (fun e => hbad ⟨hs1, by omega⟩)
        clear hs1 hbad
        cases esc with
        | false =>
          have hok := hok.2 rfl
          have hqt := hidF (isQtext_any (r : Int) w2)
          have hws := hidF (isWSP_any (r : Int) w2)
          cases hq : qtextI (r : Int) with
          | true =>
            clear hok
            rw [hq] at hqt
            clear hq
            go_wp2_with fail
            refine hqt.out.mono ?_
            rintro e w3 ⟨rfl, rfl⟩
            clear hqt hws
            go_wp2_with (first | (at_builtin; refine wpList_append_own _ rfl _ _ 97 rfl w.heap.size 21 i0 (.int .i32 0) 1 4 Tryd.underlying97 hi hz0 hz1 hz2 rfl (by decide) _ _ _ rfl (hown2.alloc _) ⟨w2.heap.size, 0, none⟩ 1 1 [.int .i32 (r : Int)] rfl rfl ?c1 ?c2 ?c3 ?c4 ?c5 ?_) | fail)
            case c1 =>
              intro j u hj
              match j, hj with
              | 0, hj => simp at hj; subst hj; simp [Addr.add]
            case c2 => intro u hu; simp at hu; subst hu; rfl
            case c3 => unfold maxLen; omega
            case c4 => omega
            case c5 => have := hb2.size; simp; omega
            · intro v' w3 hown3 hgr3 _
              rw [rune_cells] at hown3
              have hb3 : Below w.heap.size w w3 := (hb2.alloc hb2.size _).grown hgr3 (by have := hb2.size; simp; omega) (fun j hj => (hown2.lt j hj).1)
              go_wp2_with fail
              go_roundw
              case rel => exact ⟨k + sz, rs ++ [(r : Int)], false, hks, by go_num, rfl, by rw [rune_count]; exact hown3, by rw [rune_count]; omega, hb3, hnx.out⟩
              case measure => simp [intOf]; omega
          | false =>
            rw [hq, Bool.false_or] at hok
            rw [hq] at hqt
            rw [hok] at hws
            clear hok hq
            go_wp2_with fail
            refine hqt.out.mono ?_
            rintro e w3 ⟨rfl, rfl⟩
            go_wp2_with fail
            refine hws.out.mono ?_
            rintro e w3 ⟨rfl, rfl⟩
            clear hqt hws
            go_wp2_with (first | (at_builtin; refine wpList_append_own _ rfl _ _ 97 rfl w.heap.size 21 i0 (.int .i32 0) 1 4 Tryd.underlying97 hi hz0 hz1 hz2 rfl (by decide) _ _ _ rfl (hown2.alloc _) ⟨w2.heap.size, 0, none⟩ 1 1 [.int .i32 (r : Int)] rfl rfl ?c1 ?c2 ?c3 ?c4 ?c5 ?_) | fail)
            case c1 =>
              intro j u hj
              match j, hj with
              | 0, hj => simp at hj; subst hj; simp [Addr.add]
            case c2 => intro u hu; simp at hu; subst hu; rfl
            case c3 => unfold maxLen; omega
            case c4 => omega
            case c5 => have := hb2.size; simp; omega
            · intro v' w3 hown3 hgr3 _
              rw [rune_cells] at hown3
              have hb3 : Below w.heap.size w w3 := (hb2.alloc hb2.size _).grown hgr3 (by have := hb2.size; simp; omega) (fun j hj => (hown2.lt j hj).1)
              go_wp2_with fail
              go_roundw
              case rel => exact ⟨k + sz, rs ++ [(r : Int)], false, hks, by go_num, rfl, by rw [rune_count]; exact hown3, by rw [rune_count]; omega, hb3, hnx.out⟩
              case measure => simp [intOf]; omega
        | true =>
          have hok := hok.1 rfl
          have hqt := hidF (isVchar_any (r : Int) w2)
          have hws := hidF (isWSP_any (r : Int) w2)
          cases hq : vcharI (r : Int) with
          | true =>
            clear hok
            rw [hq] at hqt
            clear hq
            go_wp2_with fail
            refine hqt.out.mono ?_
            rintro e w3 ⟨rfl, rfl⟩
            clear hqt hws
            go_wp2_with (first | (at_builtin; refine wpList_append_own _ rfl _ _ 97 rfl w.heap.size 21 i0 (.int .i32 0) 1 4 Tryd.underlying97 hi hz0 hz1 hz2 rfl (by decide) _ _ _ rfl (hown2.alloc _) ⟨w2.heap.size, 0, none⟩ 1 1 [.int .i32 (r : Int)] rfl rfl ?c1 ?c2 ?c3 ?c4 ?c5 ?_) | fail)
            case c1 =>
              intro j u hj
              match j, hj with
              | 0, hj => simp at hj; subst hj; simp [Addr.add]
            case c2 => intro u hu; simp at hu; subst hu; rfl
            case c3 => unfold maxLen; omega
            case c4 => omega
            case c5 => have := hb2.size; simp; omega
            · intro v' w3 hown3 hgr3 _
              rw [rune_cells] at hown3
              have hb3 : Below w.heap.size w w3 := (hb2.alloc hb2.size _).grown hgr3 (by have := hb2.size; simp; omega) (fun j hj => (hown2.lt j hj).1)
              go_wp2_with fail
              go_roundw
              case rel => exact ⟨k + sz, rs ++ [(r : Int)], false, hks, by go_num, rfl, by rw [rune_count]; exact hown3, by rw [rune_count]; omega, hb3, hnx.out⟩
              case measure => simp [intOf]; omega
          | false =>
            rw [hq, Bool.false_or] at hok
            rw [hq] at hqt
            rw [hok] at hws
            clear hok hq
            go_wp2_with fail
            refine hqt.out.mono ?_
            rintro e w3 ⟨rfl, rfl⟩
            go_wp2_with fail
            refine hws.out.mono ?_
            rintro e w3 ⟨rfl, rfl⟩
            clear hqt hws
            go_wp2_with (first | (at_builtin; refine wpList_append_own _ rfl _ _ 97 rfl w.heap.size 21 i0 (.int .i32 0) 1 4 Tryd.underlying97 hi hz0 hz1 hz2 rfl (by decide) _ _ _ rfl (hown2.alloc _) ⟨w2.heap.size, 0, none⟩ 1 1 [.int .i32 (r : Int)] rfl rfl ?c1 ?c2 ?c3 ?c4 ?c5 ?_) | fail)
            case c1 =>
              intro j u hj
              match j, hj with
              | 0, hj => simp at hj; subst hj; simp [Addr.add]
            case c2 => intro u hu; simp at hu; subst hu; rfl
            case c3 => unfold maxLen; omega
            case c4 => omega
            case c5 => have := hb2.size; simp; omega
            · intro v' w3 hown3 hgr3 _
              rw [rune_cells] at hown3
              have hb3 : Below w.heap.size w w3 := (hb2.alloc hb2.size _).grown hgr3 (by have := hb2.size; simp; omega) (fun j hj => (hown2.lt j hj).1)
              go_wp2_with fail
              go_roundw
              case rel => exact ⟨k + sz, rs ++ [(r : Int)], false, hks, by go_num, rfl, by rw [rune_count]; exact hown3, by rw [rune_count]; omega, hb3, hnx.out⟩
              case measure => simp [intOf]; omega
      · have e1 : ((sz : Int) == 1) = false := beq_eq_false_iff_ne.2 (by omega)
        clear hs1 hbad
        cases esc with
        | false =>
          have hok := hok.2 rfl
          have hqt := hidF (isQtext_any (r : Int) w2)
          have hws := hidF (isWSP_any (r : Int) w2)
          cases hq : qtextI (r : Int) with
          | true =>
            clear hok
            rw [hq] at hqt
            clear hq
            go_wp2_with fail
            refine hqt.out.mono ?_
            rintro e w3 ⟨rfl, rfl⟩
            clear hqt hws
            go_wp2_with (first | (at_builtin; refine wpList_append_own _ rfl _ _ 97 rfl w.heap.size 21 i0 (.int .i32 0) 1 4 Tryd.underlying97 hi hz0 hz1 hz2 rfl (by decide) _ _ _ rfl (hown2.alloc _) ⟨w2.heap.size, 0, none⟩ 1 1 [.int .i32 (r : Int)] rfl rfl ?c1 ?c2 ?c3 ?c4 ?c5 ?_) | fail)
            case c1 =>
              intro j u hj
              match j, hj with
              | 0, hj => simp at hj; subst hj; simp [Addr.add]
            case c2 => intro u hu; simp at hu; subst hu; rfl
            case c3 => unfold maxLen; omega
            case c4 => omega
            case c5 => have := hb2.size; simp; omega
            · intro v' w3 hown3 hgr3 _
              rw [rune_cells] at hown3
              have hb3 : Below w.heap.size w w3 := (hb2.alloc hb2.size _).grown hgr3 (by have := hb2.size; simp; omega) (fun j hj => (hown2.lt j hj).1)
              go_wp2_with fail
              go_roundw
              case rel => exact ⟨k + sz, rs ++ [(r : Int)], false, hks, by go_num, rfl, by rw [rune_count]; exact hown3, by rw [rune_count]; omega, hb3, hnx.out⟩
              case measure => simp [intOf]; omega
          | false =>
            rw [hq, Bool.false_or] at hok
            rw [hq] at hqt
            rw [hok] at hws
            clear hok hq
            go_wp2_with fail
            refine hqt.out.mono ?_
            rintro e w3 ⟨rfl, rfl⟩
            go_wp2_with fail
            refine hws.out.mono ?_
            rintro e w3 ⟨rfl, rfl⟩
            clear hqt hws
            go_wp2_with (first | (at_builtin; refine wpList_append_own _ rfl _ _ 97 rfl w.heap.size 21 i0 (.int .i32 0) 1 4 Tryd.underlying97 hi hz0 hz1 hz2 rfl (by decide) _ _ _ rfl (hown2.alloc _) ⟨w2.heap.size, 0, none⟩ 1 1 [.int .i32 (r : Int)] rfl rfl ?c1 ?c2 ?c3 ?c4 ?c5 ?_) | fail)
            case c1 =>
              intro j u hj
              match j, hj with
              | 0, hj => simp at hj; subst hj; simp [Addr.add]
            case c2 => intro u hu; simp at hu; subst hu; rfl
            case c3 => unfold maxLen; omega
            case c4 => omega
            case c5 => have := hb2.size; simp; omega
            · intro v' w3 hown3 hgr3 _
              rw [rune_cells] at hown3
              have hb3 : Below w.heap.size w w3 := (hb2.alloc hb2.size _).grown hgr3 (by have := hb2.size; simp; omega) (fun j hj => (hown2.lt j hj).1)
              go_wp2_with fail
              go_roundw
              case rel => exact ⟨k + sz, rs ++ [(r : Int)], false, hks, by go_num, rfl, by rw [rune_count]; exact hown3, by rw [rune_count]; omega, hb3, hnx.out⟩
              case measure => simp [intOf]; omega
        | true =>
          have hok := hok.1 rfl
          have hqt := hidF (isVchar_any (r : Int) w2)
          have hws := hidF (isWSP_any (r : Int) w2)
          cases hq : vcharI (r : Int) with
          | true =>
            clear hok
            rw [hq] at hqt
            clear hq
            go_wp2_with fail
            refine hqt.out.mono ?_
            rintro e w3 ⟨rfl, rfl⟩
            clear hqt hws
            go_wp2_with (first | (at_builtin; refine wpList_append_own _ rfl _ _ 97 rfl w.heap.size 21 i0 (.int .i32 0) 1 4 Tryd.underlying97 hi hz0 hz1 hz2 rfl (by decide) _ _ _ rfl (hown2.alloc _) ⟨w2.heap.size, 0, none⟩ 1 1 [.int .i32 (r : Int)] rfl rfl ?c1 ?c2 ?c3 ?c4 ?c5 ?_) | fail)
            case c1 =>
              intro j u hj
              match j, hj with
              | 0, hj => simp at hj; subst hj; simp [Addr.add]
            case c2 => intro u hu; simp at hu; subst hu; rfl
            case c3 => unfold maxLen; omega
            case c4 => omega
            case c5 => have := hb2.size; simp; omega
            · intro v' w3 hown3 hgr3 _
              rw [rune_cells] at hown3
              have hb3 : Below w.heap.size w w3 := (hb2.alloc hb2.size _).grown hgr3 (by have := hb2.size; simp; omega) (fun j hj => (hown2.lt j hj).1)
              go_wp2_with fail
              go_roundw
              case rel => exact ⟨k + sz, rs ++ [(r : Int)], false, hks, by go_num, rfl, by rw [rune_count]; exact hown3, by rw [rune_count]; omega, hb3, hnx.out⟩
              case measure => simp [intOf]; omega
          | false =>
            rw [hq, Bool.false_or] at hok
            rw [hq] at hqt
            rw [hok] at hws
            clear hok hq
            go_wp2_with fail
            refine hqt.out.mono ?_
            rintro e w3 ⟨rfl, rfl⟩
            go_wp2_with fail
            refine hws.out.mono ?_
            rintro e w3 ⟨rfl, rfl⟩
            clear hqt hws
            go_wp2_with (first | (at_builtin; refine wpList_append_own _ rfl _ _ 97 rfl w.heap.size 21 i0 (.int .i32 0) 1 4 Tryd.underlying97 hi hz0 hz1 hz2 rfl (by decide) _ _ _ rfl (hown2.alloc _) ⟨w2.heap.size, 0, none⟩ 1 1 [.int .i32 (r : Int)] rfl rfl ?c1 ?c2 ?c3 ?c4 ?c5 ?_) | fail)
            case c1 =>
              intro j u hj
              match j, hj with
              | 0, hj => simp at hj; subst hj; simp [Addr.add]
            case c2 => intro u hu; simp at hu; subst hu; rfl
            case c3 => unfold maxLen; omega
            case c4 => omega
            case c5 => have := hb2.size; simp; omega
            · intro v' w3 hown3 hgr3 _
              rw [rune_cells] at hown3
              have hb3 : Below w.heap.size w w3 := (hb2.alloc hb2.size _).grown hgr3 (by have := hb2.size; simp; omega) (fun j hj => (hown2.lt j hj).1)
              go_wp2_with fail
              go_roundw
              case rel => exact ⟨k + sz, rs ++ [(r : Int)], false, hks, by go_num, rfl, by rw [rune_count]; exact hown3, by rw [rune_count]; omega, hb3, hnx.out⟩
              case measure => simp [intOf]; omega

end Go.Proofs.YtolbedmmjennoaaDoor
