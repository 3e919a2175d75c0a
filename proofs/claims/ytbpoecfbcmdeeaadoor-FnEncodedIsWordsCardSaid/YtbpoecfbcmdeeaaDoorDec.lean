/- spec.Decoded: the walk. -/
import Derived.Test.YtbpoecfbcmdeeaaDoorUnb
import Derived.Test.YtbpoecfbcmdeeaaDoorVld
import Derived.Test.YtbpoecfbcmdeeaaDoorOwnS
import Derived.Test.YtbpoecfbcmdeeaaDoorBytes2
import Derived.Test.YtbpoecfbcmdeeaaDoorLower
import Derived.Test.YtbpoecfbcmdeeaaDoorFind
import Derived.Deep.CutBlock
import Derived.Deep.DeepCutAuto
namespace Go.Proofs.YtbpoecfbcmdeeaaDoor
open Go.RowKit

theorem bl_yes (b : ByteArray) (l : List UInt8) (h : b.data.toList = l) : (b.toList == l) = true := by rw [Lib.toList_data, h]; exact beq_self_eq_true _
theorem bl_no (b : ByteArray) (l : List UInt8) (h : b.data.toList ≠ l) : (b.toList == l) = false := by rw [Lib.toList_data]; exact beq_eq_false_iff_ne.2 h
theorem take_ext (s : ByteArray) : (s.extract 0 2).data.toList = s.data.toList.take 2 := by rw [extract_mkB, mkB_list]; rfl
theorem drop_ext (s : ByteArray) (k : Nat) : (s.extract k s.size).data.toList = s.data.toList.drop k := by rw [from_mkB, mkB_list]

def openOut : Ending := .returned (.tuple #[.string ⟨#[]⟩, .int .i64 2])
def goodOut (t : List UInt8) : Ending := .returned (.tuple #[.string (mkB t), .int .i64 0])
/-- What Decoded and Header hand back. -/
def DecOut (o : Option (List UInt8)) (w : World) (e : Ending) (w' : World) : Prop :=
  Below w.heap.size w w' ∧ e = (match o with | some t => goodOut t | none => openOut)
theorem DecOut.no {w w' : World} (hb : Below w.heap.size w w') : DecOut none w openOut w' := ⟨hb, rfl⟩

def lists (ps : List ByteArray) : List (List UInt8) := ps.map fun p => p.data.toList

theorem splitQ_len : ∀ (l p : List UInt8), p ∈ splitQ l → p.length ≤ l.length
  | [], p, h => by
    simp [splitQ] at h
    rw [h]; simp
  | c :: r, p, h => by
    unfold splitQ at h
    split at h
    · rcases List.mem_cons.1 h with e | e
      · rw [e]; simp
      · have := splitQ_len r p e; simp; omega
    · cases hs : splitQ r with
      | nil => exact absurd hs (splitQ_ne r)
      | cons a ps =>
        rw [hs] at h
        rcases List.mem_cons.1 h with e | e
        · have := splitQ_len r a (by rw [hs]; simp)
          rw [e]; simp; omega
        · have := splitQ_len r p (by rw [hs]; simp [e])
          simp; omega

theorem unqL_len : ∀ (n : Nat) (l x : List UInt8), l.length ≤ n → unqL l = some x → x.length ≤ l.length
  | 0, l, x, hn, h => by
    have : l = [] := List.eq_nil_of_length_eq_zero (by omega)
    rw [this, unqL_nil] at h
    rw [← Option.some.inj h]; simp
  | n + 1, [], x, hn, h => by
    rw [unqL_nil] at h
    rw [← Option.some.inj h]; simp
  | n + 1, c :: r, x, hn, h => by
    rw [unqL] at h
    have hr : r.length ≤ n := by simpa using hn
    split at h
    · obtain ⟨y, hy, rfl⟩ := Option.map_eq_some_iff.1 h
      have := unqL_len n r y hr hy
      simp; omega
    · split at h
      · split at h
        · obtain ⟨a, _, h⟩ := Option.bind_eq_some_iff.1 h
          obtain ⟨b, _, h⟩ := Option.bind_eq_some_iff.1 h
          obtain ⟨y, hy, rfl⟩ := Option.map_eq_some_iff.1 h
          have := unqL_len n (r.drop 2) y (by simp; omega) hy
          simp at this ⊢; omega
        · cases h
      · split at h
        · obtain ⟨y, hy, rfl⟩ := Option.map_eq_some_iff.1 h
          have := unqL_len n r y hr hy
          simp; omega
        · cases h
theorem quadL_len (c0 c1 c2 c3 : UInt8) (b : Bool) (x : List UInt8) (h : quadL c0 c1 c2 c3 b = some x) : x.length ≤ 3 := by
  unfold quadL at h
  split at h
  · split at h
    · rw [← Option.some.inj h]; simp [three]
    · split at h
      · rw [← Option.some.inj h]; simp [three]
      · cases h
    · split at h
      · rw [← Option.some.inj h]; simp [three]
      · cases h
  · cases h
theorem unbL_len : ∀ (l x : List UInt8), unbL l = some x → x.length ≤ l.length
  | [], x, h => by rw [unbL] at h; rw [← Option.some.inj h]; simp
  | [_], x, h => by cases h
  | [_, _], x, h => by cases h
  | [_, _, _], x, h => by cases h
  | c0 :: c1 :: c2 :: c3 :: r, x, h => by
    rw [unbL] at h
    obtain ⟨q, hq, h⟩ := Option.bind_eq_some_iff.1 h
    obtain ⟨y, hy, rfl⟩ := Option.map_eq_some_iff.1 h
    have h1 := quadL_len _ _ _ _ _ _ hq
    have h2 := unbL_len r y hy
    simp; omega
theorem way_len (e tx x : List UInt8) (h : wayL e tx = some x) : x.length ≤ tx.length := by
  unfold wayL at h
  split at h
  · exact unqL_len _ _ _ (Nat.le_refl _) h
  · split at h
    · exact unbL_len _ _ h
    · cases h

theorem latin_or (c : UInt8) : 192 + ((c.toNat : Int) / 64) = (((0xC0 : UInt8) ||| (c >>> 6)).toNat : Int) := by
  have h : ∀ n : Fin 256, 192 + (((n.val : Nat) : Int) / 64) = (((0xC0 : UInt8) ||| (UInt8.ofNat n.val >>> 6)).toNat : Int) := by decide +kernel
  have := h ⟨c.toNat, c.toNat_lt⟩
  simpa only [UInt8.ofNat_toNat] using this
theorem latin_and (c : UInt8) : 128 + ((c.toNat : Int) % 64) = (((0x80 : UInt8) ||| (c &&& 0x3F)).toNat : Int) := by
  have h : ∀ n : Fin 256, 128 + (((n.val : Nat) : Int) % 64) = (((0x80 : UInt8) ||| (UInt8.ofNat n.val &&& 0x3F)).toNat : Int) := by decide +kernel
  have := h ⟨c.toNat, c.toNat_lt⟩
  simpa only [UInt8.ofNat_toNat] using this

/-- Where the loop that takes the inside apart stands. -/
def PInv (l : List UInt8) (k frm : Nat) (ps : List (List UInt8)) : Prop :=
  (k ≤ l.length ∧ frm ≤ k ∧ splitQ l = ps ++ splitQ (l.drop frm) ∧ ∀ c ∈ (l.drop frm).take (k - frm), c ≠ 63) ∨ (k = l.length + 1 ∧ splitQ l = ps)
theorem PInv.start (l : List UInt8) : PInv l 0 0 [] := .inl ⟨Nat.zero_le _, Nat.le_refl _, rfl, by simp⟩
theorem PInv.other {l : List UInt8} {k frm : Nat} {ps : List (List UInt8)} (h : PInv l k frm ps) (c : UInt8) (hk : l[k]? = some c) (hc : c ≠ 63) : PInv l (k + 1) frm ps := by
  have hkl : k < l.length := (List.getElem?_eq_some_iff.1 hk).1
  rcases h with ⟨h1, h2, h3, h4⟩ | ⟨h1, _⟩
  · refine .inl ⟨hkl, by omega, h3, ?_⟩
    rw [show k + 1 - frm = (k - frm) + 1 by omega, List.take_add_one, List.getElem?_drop, show frm + (k - frm) = k by omega, hk]
    intro x hx
    rcases List.mem_append.1 hx with h | h
    · exact h4 x h
    · have : x = c := by simpa using h
      rw [this]; exact hc
  · omega
theorem PInv.mark {l : List UInt8} {k frm : Nat} {ps : List (List UInt8)} (h : PInv l k frm ps) (hk : l[k]? = some 63) : PInv l (k + 1) (k + 1) (ps ++ [(l.drop frm).take (k - frm)]) := by
  have hkl : k < l.length := (List.getElem?_eq_some_iff.1 hk).1
  rcases h with ⟨h1, h2, h3, h4⟩ | ⟨h1, _⟩
  · refine .inl ⟨hkl, Nat.le_refl _, ?_, by simp⟩
    have e : l.drop frm = (l.drop frm).take (k - frm) ++ 63 :: l.drop (k + 1) := by
      have e1 := (List.take_append_drop (k - frm) (l.drop frm)).symm
      rw [List.drop_drop, show frm + (k - frm) = k by omega, List.drop_eq_getElem_cons hkl] at e1
      have e2 : l[k] = 63 := by rw [List.getElem?_eq_getElem hkl] at hk; exact Option.some.inj hk
      rw [e2] at e1
      exact e1
    rw [h3, List.append_assoc]
    congr 1
    have e3 := splitQ_app ((l.drop frm).take (k - frm)) (l.drop (k + 1)) h4
    rw [← e] at e3
    rw [e3]; rfl
  · omega
theorem PInv.fin {l : List UInt8} {k frm : Nat} {ps : List (List UInt8)} (h : PInv l k frm ps) (hk : k = l.length) : PInv l (k + 1) (k + 1) (ps ++ [(l.drop frm).take (k - frm)]) := by
  rcases h with ⟨h1, h2, h3, h4⟩ | ⟨h1, _⟩
  · refine .inr ⟨by omega, ?_⟩
    have e : (l.drop frm).take (k - frm) = l.drop frm := List.take_of_length_le (by rw [List.length_drop]; omega)
    rw [e] at h4 ⊢
    rw [h3, splitQ_none _ h4]
  · omega
theorem PInv.done {l : List UInt8} {k frm : Nat} {ps : List (List UInt8)} (h : PInv l k frm ps) (hk : ¬ k ≤ l.length) : splitQ l = ps := by
  rcases h with ⟨h1, _⟩ | ⟨_, h2⟩
  · omega
  · exact h2
theorem PInv.frm {l : List UInt8} {k frm : Nat} {ps : List (List UInt8)} (h : PInv l k frm ps) (hk : k ≤ l.length) : frm ≤ k := by
  rcases h with ⟨_, h2, _⟩ | ⟨h1, _⟩
  · exact h2
  · omega

theorem decodedL_bad (l : List UInt8) (h : l.length < 8 ∨ 75 < l.length ∨ l.take 2 ≠ [61, 63] ∨ l.drop (l.length - 2) ≠ [63, 61]) : decodedL l = none := by
  unfold decodedL; rw [if_pos h]
theorem decodedL_ok (l : List UInt8) (h : ¬ (l.length < 8 ∨ 75 < l.length ∨ l.take 2 ≠ [61, 63] ∨ l.drop (l.length - 2) ≠ [63, 61])) : decodedL l = partsL (splitQ ((l.drop 2).take (l.length - 4))) := by
  unfold decodedL; rw [if_neg h]

set_option maxHeartbeats 8000000 in
set_option maxRecDepth 100000 in
theorem decoded_any (s : ByteArray) (w : World) (hs : s.size ≤ 9223372036854775807) (hT : Lib.Utf8Tabs 0 1 w) :
    Calls Tryd.prog 10 #[.string s, .bool false] w (DecOut (decodedL s.data.toList) w) := by
  have Hsl := hidF (size_of_list s)
  have bad : ∀ e w', e = openOut → Below w.heap.size w w' → (s.data.toList.length < 8 ∨ 75 < s.data.toList.length ∨ s.data.toList.take 2 ≠ [61, 63] ∨ s.data.toList.drop (s.data.toList.length - 2) ≠ [63, 61]) → DecOut (decodedL s.data.toList) w e w' := by
    intro e w' he hb h
    rw [decodedL_bad _ h]
    exact ⟨hb, he⟩
  have Bad := hidF bad
  clear bad
  by_cases h8 : s.size < 8
  · have g1 : (s.size : Int) < 8 := by omega
    go_enter Tryd.func10, Tryd.ntmps10
    go_wp2_with fail
    go_ret2
    exact Bad.out _ _ rfl (Below.refl _ _) (.inl (by rw [← Hsl.out]; exact h8))
  have g1 : ¬ (s.size : Int) < 8 := by omega
  by_cases h75 : 75 < s.size
  · have g2 : (75 : Int) < (s.size : Int) := by omega
    go_enter Tryd.func10, Tryd.ntmps10
    go_wp2_with fail
    go_ret2
    exact Bad.out _ _ rfl (Below.refl _ _) (.inr (.inl (by rw [← Hsl.out]; exact h75)))
  have g2 : ¬ (75 : Int) < (s.size : Int) := by omega
  have k2 : (2 : Int) ≤ (s.size : Int) := by omega
  by_cases hp : s.data.toList.take 2 = [61, 63]
  · have f1 : ((s.extract 0 2).toList == ([61, 63] : List UInt8)) = true := bl_yes _ _ (by rw [take_ext, hp])
    have c2 : ((s.size : Int) - 2).toNat = s.size - 2 := by omega
    have c2a : (0 : Int) ≤ (s.size : Int) - 2 := by omega
    by_cases hq : s.data.toList.drop (s.data.toList.length - 2) = [63, 61]
    · have f2 : ((s.extract (s.size - 2) s.size).toList == ([63, 61] : List UInt8)) = true := bl_yes _ _ (by rw [drop_ext, Hsl.out, hq])
      have Hp := hidF hp
      have Hq := hidF hq
      clear hp hq
      go_enter Tryd.func10, Tryd.ntmps10
      go_wp2_with fail
      obtain ⟨q, hqe⟩ : ∃ q, q = s.extract 2 (s.size - 2) := ⟨_, rfl⟩
      have hql : q.data.toList = (s.data.toList.drop 2).take (s.data.toList.length - 4) := by
        rw [hqe, extract_mkB, mkB_list, Hsl.out]
        congr 1
      have HD := hidF (show decodedL s.data.toList = partsL (splitQ q.data.toList) by
        rw [decodedL_ok _ (by rw [← Hsl.out]; rintro (h | h | h | h); exact h8 h; exact h75 h; exact h Hp.out; rw [Hsl.out] at h; exact h Hq.out), hql])
      have hqs : q.size ≤ 71 := by
        rw [size_of_list, hql, List.length_take, List.length_drop, ← Hsl.out]; omega
      rw [← hqe]
      have Hql := hidF (size_of_list q)
      clear hqe hql f1 f2 c2 c2a k2 g1 g2 h8 h75
      go_loopw [7, 8, 9] (fun pv fv iv wr => ∃ (k frm : Nat) (ps : List ByteArray), k ≤ q.size + 1 ∧ iv = .int .i64 k ∧ fv = .int .i64 frm ∧ OwnS w.heap.size pv ps wr ∧ ps.length ≤ k ∧ Below w.heap.size w wr ∧ Hid (PInv q.data.toList k frm (lists ps))) (fun _ _ iv _ => q.size + 1 - (intOf iv).toNat)
      case atStart => exact ⟨0, 0, [], by omega, rfl, rfl, OwnS.nil _ _, Nat.zero_le _, Below.refl _ _, hidF (PInv.start _)⟩
      case round =>
        obtain ⟨k, frm, ps, hk, rfl, rfl, hown, hpl, hb, hinv⟩ := hrel
        have hBw := hb.size
        by_cases hkq : k ≤ q.size
        · have hkz : (k : Int) ≤ (q.size : Int) := by omega
          have hfk := hinv.out.frm (by rw [← Hql.out]; exact hkq)
          have hfz : (frm : Int) ≤ (k : Int) := by omega
          have hxl : (q.extract frm k).data.toList = (q.data.toList.drop frm).take (k - frm) := by rw [extract_mkB, mkB_list]
          have hnext : lists (ps ++ [q.extract frm k]) = lists ps ++ [(q.data.toList.drop frm).take (k - frm)] := by simp only [lists, List.map_append, List.map_cons, List.map_nil, hxl]
          have Hnext := hidF hnext
          clear hxl hnext
          by_cases hke : k = q.size
          · have e1 : ((k : Int) == (q.size : Int)) = true := beq_iff_eq.2 (by omega)
            have hfin := hidF (show PInv q.data.toList (k + 1) (k + 1) (lists (ps ++ [q.extract frm k])) by rw [Hnext.out]; exact hinv.out.fin (by rw [← Hql.out]; exact hke))
            clear hke
            go_wp2_with (first | (at_builtin; refine wpList_append_str rfl _ _ rfl _ _ ps (q.extract frm k) wr _ rfl hown rfl (by omega) hBw ?_; intro v' w2 hown2 hb2 _) | fail)
            go_roundw
            case rel => exact ⟨k + 1, k + 1, ps ++ [q.extract frm k], by omega, by go_num, by go_num, hown2, by simp; omega, hb.trans hb2, hfin⟩
            case measure => simp [intOf]; omega
          · have e1 : ((k : Int) == (q.size : Int)) = false := beq_eq_false_iff_ne.2 (by omega)
            have hklt : k < q.size := by omega
            have hkzl : (k : Int) < (q.size : Int) := by omega
            have hget := get_of q k hklt
            by_cases h63 : q[k] = 63
            · have e2 : ((q[k].toNat : Int) == 63) = true := by rw [h63]; decide
              have hfin := hidF (show PInv q.data.toList (k + 1) (k + 1) (lists (ps ++ [q.extract frm k])) by rw [Hnext.out]; exact hinv.out.mark (by rw [hget, h63]))
              clear hke h63 hget
              go_wp2_with (first | (at_builtin; refine wpList_append_str rfl _ _ rfl _ _ ps (q.extract frm k) wr _ rfl hown rfl (by omega) hBw ?_; intro v' w2 hown2 hb2 _) | fail)
              go_roundw
              case rel => exact ⟨k + 1, k + 1, ps ++ [q.extract frm k], by omega, by go_num, by go_num, hown2, by simp; omega, hb.trans hb2, hfin⟩
              case measure => simp [intOf]; omega
            · have e2 : ((q[k].toNat : Int) == 63) = false := by
                refine beq_eq_false_iff_ne.2 (fun e => h63 (UInt8.toNat_inj.1 ?_))
                have : (63 : UInt8).toNat = 63 := rfl
                omega
              have hfin := hidF (hinv.out.other _ hget h63)
              clear hke h63 hget
              go_wp2_with fail
              go_roundw
              case rel => exact ⟨k + 1, frm, ps, by omega, by go_num, rfl, hown, by omega, hb, hfin⟩
              case measure => simp [intOf]; omega
        · have hkz : ¬ (k : Int) ≤ (q.size : Int) := by omega
          have HD2 := hidF (show decodedL s.data.toList = partsL (lists ps) by rw [HD.out, hinv.out.done (by rw [← Hql.out]; exact hkq)])
          have hspl := hidF (hinv.out.done (by rw [← Hql.out]; exact hkq))
          clear HD hinv
          by_cases h3 : ps.length = 3
          · obtain ⟨pa, pb, pc, rfl⟩ : ∃ a b c, ps = [a, b, c] := by
              match ps, h3 with
              | [a, b, c], _ => exact ⟨a, b, c, rfl⟩
            obtain ⟨g, cap, rfl, hgB, hgl, hcs⟩ : ∃ g cap, u7 = .slice (some ⟨g, 0, none⟩) 3 cap ∧ w.heap.size ≤ g ∧ g < wr.heap.size ∧ ∀ j c, [pa, pb, pc][j]? = some c → wr.cell? ⟨g, j, none⟩ = some (.string c) := by
              rcases hown.row with ⟨_, h⟩ | h
              · cases h
              · exact h
            have ca := hcs 0 pa rfl
            have cb := hcs 1 pb rfl
            have cc := hcs 2 pc rfl
            have Hps := hidF (size_of_list pc)
            have HD3 := hidF (show decodedL s.data.toList = if pc.data.toList = [] then none else (wayL pb.data.toList pc.data.toList).bind (convL pa.data.toList) from HD2.out)
            have hpcs : pc.size ≤ 1000000 := by
              have := splitQ_len q.data.toList pc.data.toList (by rw [hspl.out]; simp [lists])
              rw [← Hql.out] at this
              rw [size_of_list]; omega
            have hpas : pa.size ≤ 1000000 := by
              have := splitQ_len q.data.toList pa.data.toList (by rw [hspl.out]; simp [lists])
              rw [← Hql.out] at this
              rw [size_of_list]; omega
            clear hcs HD2 hown h3 hpl hkq hspl
            by_cases hpc : pc.size = 0
            · have e0 : ((pc.size : Int) == 0) = true := beq_iff_eq.2 (by omega)
              have hno := hidF (show decodedL s.data.toList = none by
                rw [HD3.out, if_pos (List.eq_nil_of_length_eq_zero (by rw [← Hps.out]; exact hpc))])
              clear hpc
              go_wp2_with fail
              go_ret2
              exact ⟨hb, by rw [hno.out]; rfl⟩
            · have e0 : ((pc.size : Int) == 0) = false := beq_eq_false_iff_ne.2 (by omega)
              have HD4 := hidF (show decodedL s.data.toList = (wayL pb.data.toList pc.data.toList).bind (convL pa.data.toList) by
                rw [HD3.out, if_neg (fun h => hpc (by rw [Hps.out, h]; rfl))])
              clear hpc HD3
              go_upto_block 2 with (fail)
              go_cut [10, 11] (fun v10 v11 wx => Below wr.heap.size wr wx ∧ ((∃ l, wayL pb.data.toList pc.data.toList = some l ∧ v11 = .bool true ∧ OwnB wr.heap.size v10 l wx) ∨ (wayL pb.data.toList pc.data.toList = none ∧ v11 = .bool false)))
              case first =>
                as_aux_lemma =>
                by_cases h81 : pb.data.toList = [81]
                · have f81 : (pb.toList == ([81] : List UInt8)) = true := bl_yes _ _ h81
                  have hway := hidF (show wayL pb.data.toList pc.data.toList = unqL pc.data.toList by rw [h81]; rfl)
                  clear h81
                  go_wp2_with fail
                  refine (unquoted_any pc wr hpcs).mono ?_
                  rintro e w2 ⟨hb2, ⟨v, l, hl, rfl, ho⟩ | ⟨hl, rfl⟩⟩
                  · replace hl := hidF (hway.out.trans hl)
                    go_wp2_with fail
                    go_meet
                    exact ⟨hb2, .inl ⟨l, hl.out, rfl, ho⟩⟩
                  · replace hl := hidF (hway.out.trans hl)
                    go_wp2_with fail
                    go_meet
                    exact ⟨hb2, .inr ⟨hl.out, rfl⟩⟩
                have f81 : (pb.toList == ([81] : List UInt8)) = false := bl_no _ _ h81
                by_cases h113 : pb.data.toList = [113]
                · have f113 : (pb.toList == ([113] : List UInt8)) = true := bl_yes _ _ h113
                  have hway := hidF (show wayL pb.data.toList pc.data.toList = unqL pc.data.toList by rw [h113]; rfl)
                  clear h113
                  go_wp2_with fail
                  refine (unquoted_any pc wr hpcs).mono ?_
                  rintro e w2 ⟨hb2, ⟨v, l, hl, rfl, ho⟩ | ⟨hl, rfl⟩⟩
                  · replace hl := hidF (hway.out.trans hl)
                    go_wp2_with fail
                    go_meet
                    exact ⟨hb2, .inl ⟨l, hl.out, rfl, ho⟩⟩
                  · replace hl := hidF (hway.out.trans hl)
                    go_wp2_with fail
                    go_meet
                    exact ⟨hb2, .inr ⟨hl.out, rfl⟩⟩
                have f113 : (pb.toList == ([113] : List UInt8)) = false := bl_no _ _ h113
                by_cases h66 : pb.data.toList = [66]
                · have f66 : (pb.toList == ([66] : List UInt8)) = true := bl_yes _ _ h66
                  have hway := hidF (show wayL pb.data.toList pc.data.toList = unbL pc.data.toList by rw [h66]; rfl)
                  clear h66
                  go_wp2_with fail
                  refine (unbased_any pc wr hpcs).mono ?_
                  rintro e w2 ⟨hb2, ⟨v, l, hl, rfl, ho⟩ | ⟨hl, rfl⟩⟩
                  · replace hl := hidF (hway.out.trans hl)
                    go_wp2_with fail
                    go_meet
                    exact ⟨hb2, .inl ⟨l, hl.out, rfl, ho⟩⟩
                  · replace hl := hidF (hway.out.trans hl)
                    go_wp2_with fail
                    go_meet
                    exact ⟨hb2, .inr ⟨hl.out, rfl⟩⟩
                have f66 : (pb.toList == ([66] : List UInt8)) = false := bl_no _ _ h66
                by_cases h98 : pb.data.toList = [98]
                · have f98 : (pb.toList == ([98] : List UInt8)) = true := bl_yes _ _ h98
                  have hway := hidF (show wayL pb.data.toList pc.data.toList = unbL pc.data.toList by rw [h98]; rfl)
                  clear h98
                  go_wp2_with fail
                  refine (unbased_any pc wr hpcs).mono ?_
                  rintro e w2 ⟨hb2, ⟨v, l, hl, rfl, ho⟩ | ⟨hl, rfl⟩⟩
                  · replace hl := hidF (hway.out.trans hl)
                    go_wp2_with fail
                    go_meet
                    exact ⟨hb2, .inl ⟨l, hl.out, rfl, ho⟩⟩
                  · replace hl := hidF (hway.out.trans hl)
                    go_wp2_with fail
                    go_meet
                    exact ⟨hb2, .inr ⟨hl.out, rfl⟩⟩
                have f98 : (pb.toList == ([98] : List UInt8)) = false := bl_no _ _ h98
                have hway := hidF (show wayL pb.data.toList pc.data.toList = none by unfold wayL; rw [if_neg (by rintro (h | h); exact h81 h; exact h113 h), if_neg (by rintro (h | h); exact h66 h; exact h98 h)])
                clear h81 h113 h66 h98
                go_wp2_with fail
                go_meet
                exact ⟨Below.refl _ _, .inr ⟨hway.out, rfl⟩⟩
              case rest =>
                as_aux_lemma =>
                obtain ⟨hb2, ⟨l, hl, rfl, ho⟩ | ⟨hl, rfl⟩⟩ := hcut
                · have ca2 : wc.cell? ⟨g, 0, none⟩ = some (.string pa) := (hb2.cell (p := ⟨g, 0, none⟩) hgl).trans ca
                  have HD5 := hidF (show decodedL s.data.toList = convL pa.data.toList l by rw [HD4.out, hl]; rfl)
                  have hll := hidF (way_len _ _ _ hl)
                  have hpl2 := hidF hpcs
                  clear hl ca cb cc HD4
                  have hbw2 := hb.trans (hb2.mono hBw)
                  go_wp2_with fail
                  refine (lower_any pa wc (by omega)).mono ?_
                  rintro e w3 ⟨rfl, hb3⟩
                  have ho3 := ho.below hb3
                  have hbw3 := hbw2.trans (hb3.mono hbw2.size)
                  obtain ⟨lo, hlo⟩ : ∃ lo, lo = mkB (lowerL pa.data.toList) := ⟨_, rfl⟩
                  have hlol : lo.data.toList = lowerL pa.data.toList := by rw [hlo, mkB_list]
                  rw [← hlo]
                  have hlen : l.length ≤ 1000000 := by
                    have h1 := hll.out
                    have h2 := hpl2.out
                    rw [size_of_list] at h2
                    omega
                  clear hlo ho hll hpl2
                  by_cases hu : lowerL pa.data.toList = utfN
                  · have fu : (lo.toList == ([117, 116, 102, 45, 56] : List UInt8)) = true := bl_yes _ _ (hlol.trans hu)
                    have HD6 := hidF (show decodedL s.data.toList = if Lib.validD l then some l else none by rw [HD5.out]; unfold convL; rw [if_pos hu])
                    clear hu hlol
                    go_wp2_with fail
                    refine (valid_any _ u10 l w3 ho3 (by omega) (utf8_below hT hbw3)).mono ?_
                    rintro e w4 ⟨rfl, hb4⟩
                    have hbw4 := hbw3.trans (hb4.mono hbw3.size)
                    have hcv := (ho3.below hb4).string
                    cases hv : Lib.validD l with
                    | true =>
                      have HD7 := hidF (show decodedL s.data.toList = some l by rw [HD6.out, hv]; rfl)
                      clear hv
                      go_wp2_with fail
                      go_ret2
                      exact ⟨hbw4, by rw [HD7.out]; rfl⟩
                    | false =>
                      have HD7 := hidF (show decodedL s.data.toList = none by rw [HD6.out, hv]; rfl)
                      clear hv
                      go_wp2_with fail
                      go_ret2
                      exact ⟨hbw4, by rw [HD7.out]; rfl⟩
                  have fu : (lo.toList == ([117, 116, 102, 45, 56] : List UInt8)) = false := bl_no _ _ (by rw [hlol]; exact hu)
                  by_cases hi : lowerL pa.data.toList = isoN
                  · have fi : (lo.toList == ([105, 115, 111, 45, 56, 56, 53, 57, 45, 49] : List UInt8)) = true := bl_yes _ _ (hlol.trans hi)
                    have HD6 := hidF (show decodedL s.data.toList = some (latinL l) by rw [HD5.out]; unfold convL; rw [if_neg hu, if_pos hi])
                    clear hi hu hlol
                    obtain ⟨av, cv, rfl, hcl⟩ := ho3.at
                    have Hcl := hidF hcl
                    clear hcl
                    go_wp2_with fail
                    go_loopw [12, 119] (fun ov iv wr4 => ∃ (k : Nat) (out : List UInt8), k ≤ l.length ∧ iv = .int .i64 k ∧ OwnB w3.heap.size ov out wr4 ∧ out.length ≤ 2 * k ∧ Below w3.heap.size w3 wr4 ∧ Hid (latinL l = out ++ latinL (l.drop k))) (fun _ iv _ => l.length - (intOf iv).toNat)
                    case atStart => exact ⟨0, [], Nat.zero_le _, rfl, OwnB.nil _ _, Nat.zero_le _, Below.refl _ _, hidF (by rw [List.drop_zero]; rfl)⟩
                    case round =>
                      obtain ⟨k, out, hk, rfl, hown, hol, hb4, hst⟩ := hrel
                      have hB4 := hb4.size
                      by_cases hkl : k < l.length
                      · have hkz : (k : Int) < (l.length : Int) := by omega
                        obtain ⟨c, hc⟩ : ∃ c, l[k]? = some c := ⟨_, List.getElem?_eq_getElem hkl⟩
                        obtain ⟨gl, rfl, _, hgl3, hcell⟩ := Hcl.out k c hc
                        have hcell4 : wr.cell? ⟨gl, k, none⟩ = some (.int .u8 (c.toNat : Int)) := (hb4.cell (p := ⟨gl, k, none⟩) hgl3).trans hcell
                        have hd : l.drop k = c :: l.drop (k + 1) := by
                          rw [List.drop_eq_getElem_cons hkl]
                          rw [List.getElem?_eq_getElem hkl] at hc
                          rw [Option.some.inj hc]
                        have hcl2 := c.toNat_lt
                        by_cases hasc : c.toNat < 128
                        · have ha : (c.toNat : Int) < 128 := by omega
                          have hnx := hidF (show latinL l = (out ++ [c]) ++ latinL (l.drop (k + 1)) by
                            rw [hst.out, hd]; simp [latinL, latinC, hasc])
                          clear hd hst hc hcell hasc
                          go_wp2_with (first | (at_builtin; refine wpList_append_byte rfl _ _ rfl _ _ out c _ wr _ rfl hown rfl (by omega) hB4 rfl ?_; intro v' w5 hown5 hb5 _) | fail)
                          go_roundw
                          case rel => exact ⟨k + 1, out ++ [c], hkl, by go_num, hown5, by simp; omega, hb4.trans hb5, hnx⟩
                          case measure => simp [intOf]; omega
                        · have ha : ¬ (c.toNat : Int) < 128 := by omega
                          have hnx := hidF (show latinL l = (out ++ [(0xC0 : UInt8) ||| (c >>> 6), (0x80 : UInt8) ||| (c &&& 0x3F)]) ++ latinL (l.drop (k + 1)) by
                            rw [hst.out, hd]; simp [latinL, latinC, hasc])
                          have l1 := hidF (latin_or c)
                          have l2 := hidF (latin_and c)
                          clear hd hst hc hcell hasc
                          go_wp2_with (first | (at_builtin; refine wpList_append_two rfl _ _ rfl _ _ out _ _ _ _ wr _ rfl hown rfl (by omega) hB4 l1.out l2.out ?_; intro v' w5 hown5 hb5 _) | fail)
                          go_roundw
                          case rel => exact ⟨k + 1, _, hkl, by go_num, hown5, by simp; omega, hb4.trans hb5, hnx⟩
                          case measure => simp [intOf]; omega
                      · have hkz : ¬ (k : Int) < (l.length : Int) := by omega
                        have hfin := hidF (show decodedL s.data.toList = some out by
                          rw [HD6.out, hst.out, List.drop_eq_nil_of_le (by omega)]; simp [latinL])
                        have hcv := hown.string
                        go_wp2_with fail
                        go_ret2
                        exact ⟨hbw3.trans (hb4.mono hbw3.size), by rw [hfin.out]; rfl⟩
                  have fi : (lo.toList == ([105, 115, 111, 45, 56, 56, 53, 57, 45, 49] : List UInt8)) = false := bl_no _ _ (by rw [hlol]; exact hi)
                  by_cases ha : lowerL pa.data.toList = ascN
                  · have fa : (lo.toList == ([117, 115, 45, 97, 115, 99, 105, 105] : List UInt8)) = true := bl_yes _ _ (hlol.trans ha)
                    have HD6 := hidF (show decodedL s.data.toList = if l.all (fun c => decide (c.toNat < 128)) then some l else none by rw [HD5.out]; unfold convL; rw [if_neg hu, if_neg hi, if_pos ha])
                    clear ha hi hu hlol
                    have hcv := ho3.string
                    obtain ⟨av, cv, rfl, hcl⟩ := ho3.at
                    have Hcl := hidF hcl
                    clear hcl
                    go_wp2_with fail
                    go_loop [145] (fun iv => ∃ k : Nat, k ≤ l.length ∧ iv = .int .i64 k ∧ Hid (l.all (fun c => decide (c.toNat < 128)) = (l.drop k).all (fun c => decide (c.toNat < 128)))) (fun iv => l.length - (intOf iv).toNat)
                    case atStart => exact ⟨0, Nat.zero_le _, rfl, hidF (by rw [List.drop_zero])⟩
                    case round =>
                      obtain ⟨k, hk, rfl, hst⟩ := hrel
                      by_cases hkl : k < l.length
                      · have hkz : (k : Int) < (l.length : Int) := by omega
                        obtain ⟨c, hc⟩ : ∃ c, l[k]? = some c := ⟨_, List.getElem?_eq_getElem hkl⟩
                        obtain ⟨gl, rfl, _, hgl3, hcell⟩ := Hcl.out k c hc
                        have hd : l.drop k = c :: l.drop (k + 1) := by
                          rw [List.drop_eq_getElem_cons hkl]
                          rw [List.getElem?_eq_getElem hkl] at hc
                          rw [Option.some.inj hc]
                        by_cases hasc : c.toNat < 128
                        · have h128 : ¬ (128 : Int) ≤ (c.toNat : Int) := by omega
                          have hnx := hidF (show l.all (fun c => decide (c.toNat < 128)) = (l.drop (k + 1)).all (fun c => decide (c.toNat < 128)) by
                            rw [hst.out, hd]; simp [hasc])
                          clear hd hst hc hasc
                          go_wp2_with fail
                          go_round
                          case rel => exact ⟨k + 1, hkl, by go_num, hnx⟩
                          case measure => simp [intOf]; omega
                        · have h128 : (128 : Int) ≤ (c.toNat : Int) := by omega
                          have hfin := hidF (show decodedL s.data.toList = none by
                            rw [HD6.out, hst.out, hd]; simp [hasc])
                          clear hd hst hc hasc
                          go_wp2_with fail
                          go_ret2
                          exact ⟨hbw3, by rw [hfin.out]; rfl⟩
                      · have hkz : ¬ (k : Int) < (l.length : Int) := by omega
                        have hfin := hidF (show decodedL s.data.toList = some l by
                          rw [HD6.out, hst.out, List.drop_eq_nil_of_le (by omega)]; rfl)
                        go_wp2_with fail
                        go_ret2
                        exact ⟨hbw3, by rw [hfin.out]; rfl⟩
                  have fa : (lo.toList == ([117, 115, 45, 97, 115, 99, 105, 105] : List UInt8)) = false := bl_no _ _ (by rw [hlol]; exact ha)
                  have HD6 := hidF (show decodedL s.data.toList = none by rw [HD5.out]; unfold convL; rw [if_neg hu, if_neg hi, if_neg ha])
                  clear hu hi ha hlol
                  go_wp2_with fail
                  go_ret2
                  exact ⟨hbw3, by rw [HD6.out]; rfl⟩
                · have hno := hidF (show decodedL s.data.toList = none by rw [HD4.out, hl]; rfl)
                  clear hl
                  go_wp2_with fail
                  go_ret2
                  exact ⟨hb.trans (hb2.mono hBw), by rw [hno.out]; rfl⟩
          · have e3 : ((ps.length : Int) != 3) = true := bne_iff_ne.2 (by omega)
            obtain ⟨av, cv, rfl⟩ : ∃ a c, u7 = .slice a ps.length c := by
              rcases hown.row with ⟨rfl, rfl⟩ | ⟨g, cap, rfl, _⟩
              · exact ⟨none, 0, rfl⟩
              · exact ⟨_, _, rfl⟩
            have hno := hidF (show decodedL s.data.toList = none by
              rw [HD2.out]
              unfold partsL
              split
              · rename_i cs e tx hl
                have := congrArg List.length hl
                simp [lists] at this
                exact absurd this h3
              · rfl)
            clear h3
            go_wp2_with fail
            go_ret2
            exact ⟨hb, by rw [hno.out]; rfl⟩
    · have f2 : ((s.extract (s.size - 2) s.size).toList == ([63, 61] : List UInt8)) = false := bl_no _ _ (by rw [drop_ext, Hsl.out]; exact hq)
      have Hq := hidF hq
      clear hp hq
      go_enter Tryd.func10, Tryd.ntmps10
      go_wp2_with fail
      go_ret2
      exact Bad.out _ _ rfl (Below.refl _ _) (.inr (.inr (.inr Hq.out)))
  · have f1 : ((s.extract 0 2).toList == ([61, 63] : List UInt8)) = false := bl_no _ _ (by rw [take_ext]; exact hp)
    have Hp := hidF hp
    clear hp
    go_enter Tryd.func10, Tryd.ntmps10
    go_wp2_with fail
    go_ret2
    exact Bad.out _ _ rfl (Below.refl _ _) (.inr (.inr (.inl Hp.out)))
end Go.Proofs.YtbpoecfbcmdeeaaDoor
