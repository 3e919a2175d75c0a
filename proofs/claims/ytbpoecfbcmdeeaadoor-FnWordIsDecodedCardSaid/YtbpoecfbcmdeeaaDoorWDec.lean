/- gomime's Decode and impl.Decoded at words that the reference decodes: the walks. -/
import Derived.Test.YtbpoecfbcmdeeaaDoorConv
import Derived.Test.YtbpoecfbcmdeeaaDoorB64S
import Derived.Test.YtbpoecfbcmdeeaaDoorDec
import Derived.Outline
namespace Go.Proofs.YtbpoecfbcmdeeaaDoor
open Go.RowKit

def qS : ByteArray := ⟨#[63]⟩
def preS : ByteArray := ⟨#[61, 63]⟩
def sufS : ByteArray := ⟨#[63, 61]⟩

theorem marks_app (a b : List UInt8) : marks (a ++ b) = marks a + marks b := by simp [marks]
theorem marks_none (a : List UInt8) (h : ∀ c ∈ a, c ≠ 63) : marks a = 0 := by
  unfold marks
  rw [List.countP_eq_zero]
  intro c hc; simpa using h c hc

theorem coded_marks {l cs tx b t : List UInt8} {e : UInt8} (h : Coded l cs e tx b t) : marks l = 4 := by
  have he : (e == 63) = false := by rcases h.noe with rfl | rfl | rfl | rfl <;> rfl
  rw [h.text]
  show marks ([61, 63] ++ (cs ++ ([63, e, 63] ++ (tx ++ [63, 61])))) = 4
  rw [marks_app, marks_app, marks_app, marks_app, marks_none cs h.nocs, marks_none tx h.notx]
  simp [marks, he]
theorem coded_cs {l cs tx b t : List UInt8} {e : UInt8} (h : Coded l cs e tx b t) : cs ≠ [] := by
  intro e0
  have := h.conv
  rw [e0] at this
  simp [convL, lowerL, utfN, isoN, ascN] at this
theorem coded_len {l cs tx b t : List UInt8} {e : UInt8} (h : Coded l cs e tx b t) : l.length = cs.length + tx.length + 7 := by
  rw [h.text]; simp; omega
theorem way_len' (e : UInt8) (tx b : List UInt8) (h : wayL [e] tx = some b) : b.length ≤ tx.length := by
  have := way_len _ _ _ h
  omega

theorem cell_alloc_old' (w : World) (ob : Obj) (k j : Nat) (h : k < w.heap.size) : (w.alloc ob).cell? ⟨k, j, none⟩ = w.cell? ⟨k, j, none⟩ :=
  World.cell?_of_block ((((Below.refl w.heap.size w).alloc (Nat.le_refl _) ob)).block k h)

set_option maxHeartbeats 4000000 in
set_option maxRecDepth 100000 in
theorem wordDecode_any (d : Value) (s : ByteArray) (cs tx b t : List UInt8) (e0 : UInt8) (w : World) (h : Coded s.data.toList cs e0 tx b t) :
    Calls Tryd.prog 20 #[d, .string s] w fun e w' => e = .returned (.tuple #[.string (mkB t), .nilIface]) ∧ Below w.heap.size w w' := by
  have hcl := coded_len h
  have hsl := size_of_list s
  have htn : 0 < tx.length := List.length_pos_iff.2 h.ne
  have hcn : 0 < cs.length := List.length_pos_iff.2 (coded_cs h)
  have hl75 := h.len
  -- the tests
  have t1 : ¬ (s.size : Int) < 8 := by omega
  have hp := hidF (show Calls Tryd.prog 26 #[.string s, .string preS] w fun e w' => e = .returned (.bool true) ∧ w = w' from
    (Tryd.strings_HasPrefix s preS w).mono (by
      rintro e w' ⟨rfl, rfl⟩
      refine ⟨?_, rfl⟩
      rw [h.text]
      rfl))
  have hs := hidF (show Calls Tryd.prog 27 #[.string s, .string sufS] w fun e w' => e = .returned (.bool true) ∧ w = w' from
    (Tryd.strings_HasSuffix s sufS w (by omega)).mono (by
      rintro e w' ⟨rfl, rfl⟩
      refine ⟨?_, rfl⟩
      rw [h.text, show (61 : UInt8) :: 63 :: (cs ++ 63 :: e0 :: 63 :: (tx ++ [63, 61])) = (61 :: 63 :: (cs ++ 63 :: e0 :: 63 :: tx)) ++ [63, 61] by simp]
      have : Lib.hasSuffix ((61 :: 63 :: (cs ++ 63 :: e0 :: 63 :: tx)) ++ [63, 61]) sufS.data.toList = true := by
        unfold Lib.hasSuffix
        exact List.isSuffixOf_iff_suffix.2 ⟨_, rfl⟩
      rw [this]))
  have hq := hidF (zzCount_q s qS w (by omega) rfl)
  rw [coded_marks h, show ((4 : Nat) : Int) = 4 from rfl] at hq
  obtain ⟨inn, hinn⟩ : ∃ inn, inn = mkB (cs ++ 63 :: e0 :: 63 :: tx) := ⟨_, rfl⟩
  obtain ⟨csB, hcsB⟩ : ∃ x, x = mkB cs := ⟨_, rfl⟩
  obtain ⟨txB, htxB⟩ : ∃ x, x = mkB tx := ⟨_, rfl⟩
  obtain ⟨eB, heB⟩ : ∃ x, x = mkB [e0] := ⟨_, rfl⟩
  obtain ⟨re, hre⟩ : ∃ x, x = mkB (e0 :: 63 :: tx) := ⟨_, rfl⟩
  have x1 : s.extract 2 (s.size - 2) = inn := by
    rw [extract_mkB, hinn, h.text, hsl, hcl]
    congr 1
    show (cs ++ 63 :: e0 :: 63 :: (tx ++ [63, 61])).take _ = _
    rw [show (cs ++ 63 :: e0 :: 63 :: (tx ++ [63, 61])) = (cs ++ 63 :: e0 :: 63 :: tx) ++ [63, 61] by simp]
    rw [List.take_left' (by simp; omega)]
  have x2 : ((s.size : Int) - 2).toNat = s.size - 2 := by omega
  have t2 : (2 : Int) ≤ (s.size : Int) - 2 := by omega
  have u1 : (8 : Int) ≤ (s.size : Int) := by omega
  have u2 : (s.size : Int) ≤ 75 := by omega
  have hisz : inn.size ≤ 100000 := by rw [hinn, size_mkB]; simp; omega
  have hrsz : re.size ≤ 100000 := by rw [hre, size_mkB]; simp; omega
  have hcsz : csB.size = cs.length := by rw [hcsB, size_mkB]
  have hne : (e0 : UInt8) ≠ 63 := by rcases h.noe with rfl | rfl | rfl | rfl <;> decide
  have hcut1 := hidF (zzCut_yes inn qS csB re w (by omega) (by decide) (by
    rw [hinn, mkB_list, hcsz]; exact indexO_one 63 cs _ h.nocs) (by rw [hinn, hcsB, hre, mkB_list, mkB_list, mkB_list]; rfl))
  have hcut2 := hidF (fun w => zzCut_yes re qS eB txB w (by omega) (by decide) (by
    rw [hre, mkB_list, heB, size_mkB]; exact indexO_one 63 [e0] tx (by simpa using hne)) (by rw [hre, heB, htxB, mkB_list, mkB_list, mkB_list]; rfl))
  have t3 : (csB.toList = []) = False := by
    rw [Lib.toList_data, hcsB, mkB_list]
    exact eq_false (coded_cs h)
  have t3b : csB.toList.isEmpty = false := by
    rw [Lib.toList_data, hcsB, mkB_list, List.isEmpty_eq_false_iff]
    exact coded_cs h
  have hes : eB.size = 1 := by rw [heB]; rfl
  have heg : eB[0] = e0 := by subst heB; rfl
  have hdec := hidF (fun w => decode_any e0 txB b w h.noe (by rw [htxB, mkB_list]; exact h.way) (by rw [htxB, mkB_list]; exact h.ne) (by rw [htxB, size_mkB]; omega))
  have hbl := hidF (way_len' _ _ _ h.way)
  have hconv := hidF (show convL csB.data.toList b = some t by rw [hcsB, mkB_list]; exact h.conv)
  have Hsz := hidF (show 0 + 2 * b.length ≤ 1000000 by have := hbl.out; omega)
  clear hcl hsl htn hcn hl75 hinn hcsB htxB heB hre hcsz hne h hbl
  go_enter Tryd.func20, Tryd.ntmps20
  go_wp2_with fail
  refine hp.out.mono ?_
  rintro e w1 ⟨rfl, rfl⟩
  go_wp2_with fail
  refine hs.out.mono ?_
  rintro e w1 ⟨rfl, rfl⟩
  go_wp2_with fail
  refine hq.out.mono ?_
  rintro e w1 ⟨rfl, rfl⟩
  clear hp hs hq
  go_wp2_with fail
  refine hcut1.out.mono ?_
  rintro e w1 ⟨rfl, hb1⟩
  have Hb1 := hidF hb1
  clear hb1 hcut1
  go_wp2_with fail
  refine (hcut2.out w1).mono ?_
  rintro e w2 ⟨rfl, hb2⟩
  have Hb2 := hidF (Hb1.out.trans (hb2.mono Hb1.out.size))
  clear hb2 hcut2 Hb1
  go_wp2_with fail
  refine (hdec.out w2).mono ?_
  rintro e w3 ⟨hb3, g, cap, rfl, hg1, hg2, hcells⟩
  have Hb3 := hidF (Hb2.out.trans (hb3.mono Hb2.out.size))
  have hw3 := hidF (Hb3.out.size)
  have hcv := hidF (convert_any d w3.heap.size g cap csB b t [] (w3.alloc (.cells #[.pointer none, .slice none 0 0] 64)) (IsB.fresh w3) (apart_fresh w3 g hg2) (by simp; have := Hsz.out; omega) hconv.out (fun j c hj => (cell_alloc_old' w3 _ _ _ hg2).trans (hcells j c hj)))
  have hap := hidF (fun k (hk : k < w.heap.size) => apart_fresh w3 k (Nat.lt_of_lt_of_le hk hw3.out))
  have hbel := hidF (Hb3.out.trans (((Below.refl w3.heap.size w3).alloc (Nat.le_refl _) (.cells #[.pointer none, .slice none 0 0] 64)).mono hw3.out))
  clear hb3 hg1 hg2 hcells hdec Hb2 Hb3
  go_wp2_with fail
  refine hcv.out.mono ?_
  rintro e w4 ⟨rfl, hB4, hS4⟩
  have hap4 := hidF (fun k (hk : k < w.heap.size) => (hS4.kept k (Nat.lt_of_lt_of_le hk hbel.out.size) (hap.out k hk)).2)
  have hb4 := hidF (hbel.out.trans (hS4.below hap.out hbel.out.size))
  have hstr := hidF (Tryd.Builder_String_any_k w.heap.size w3.heap.size ([] ++ t) w4 (hB4.up hap4.out) hb4.out.size)
  clear hB4 hS4 hcv
  go_wp2_with fail
  refine hstr.out.mono ?_
  rintro e w5 ⟨rfl, _, hb5, _⟩
  have hb6 := hidF (hb4.out.trans hb5)
  clear hb5 hstr
  go_wp2_with fail
  go_ret2
  exact ⟨rfl, hb6.out⟩

set_option maxHeartbeats 1000000 in
theorem implDecoded_any (s : ByteArray) (cs tx b t : List UInt8) (e0 : UInt8) (w : World) (h : Coded s.data.toList cs e0 tx b t) :
    Calls Tryd.prog 11 #[.string s] w fun e w' => e = .returned (.tuple #[.string (mkB t), .bool true]) ∧ Below w.heap.size w w' := by
  have hcall := hidF (fun d w => wordDecode_any d s cs tx b t e0 w h)
  clear h
  go_enter Tryd.func11, Tryd.ntmps11
  go_wp2_with fail
  refine (hcall.out _ _).mono ?_
  rintro e w1 ⟨rfl, hb⟩
  have HB := hidF (show Below w.heap.size w w1 from ((Below.refl w.heap.size w).alloc (Nat.le_refl _) _).trans (hb.mono (by simp)))
  clear hb hcall
  go_wp2_with fail
  go_quiet (fail)
  go_wp2_with fail
  go_ret2
  exact ⟨rfl, HB.out.trans ⟨rfl, rfl, rfl, Nat.le_refl _, fun _ _ => rfl⟩⟩
end Go.Proofs.YtbpoecfbcmdeeaaDoor
