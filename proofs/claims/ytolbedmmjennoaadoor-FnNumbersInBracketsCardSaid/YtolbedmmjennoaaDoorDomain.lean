/- consumeDomainLiteral over numbers in brackets: the walk. -/
import Derived.Test.YtolbedmmjennoaaDoorDtext
import Derived.Test.YtolbedmmjennoaaDoorSpec
namespace Go.Proofs.YtolbedmmjennoaaDoor
open Go.RowKit

/-- Where the loop of consumeDomainLiteral stands: u is what of the inside is left. -/
def DSt (t u z : List UInt8) (n : Nat) (s : List UInt8) : Prop := s = u ++ 93 :: z ∧ u = t.drop n ∧ n ≤ t.length

set_option maxHeartbeats 2000000 in
set_option maxRecDepth 100000 in
theorem domain_any (b : Nat) (s t z : ByteArray) (w : World) (e1 : s.data.toList = 91 :: (t.data.toList ++ 93 :: z.data.toList)) (hP : PAt b s w) (ht : ∀ c ∈ t.data.toList, numC c) (hs : t.size ≤ 1000000)
    (hT : ∀ w', w.grownBy w' (some b) → Lib.Utf8Tabs 0 1 w')
    (hI : ∀ w', w.grownBy w' (some b) → Calls Tryd.prog 45 #[.string t] w' fun e w'' => e = .returned (.bool true) ∧ Below w'.heap.size w' w'') :
    Calls Tryd.prog 26 #[.pointer (some ⟨b, 0, none⟩)] w fun e w' => e = .returned (.tuple #[.string (⟨#[91]⟩ ++ t ++ ⟨#[93]⟩), .nilIface]) ∧ PAt b z w' ∧ w.grownBy w' (some b) := by
  have hlt := hP.lt
  have h0 : 0 < s.size := by rw [size_of_list, e1]; simp
  have hc0 : (((s[0]'h0).toNat : Nat) : Int) = 91 := by
    have := drop_cons s 0 h0
    rw [List.drop_zero, e1] at this
    rw [← (List.cons.inj this).1]; rfl
  have htail := hidF (show tailB s = mkB (t.data.toList ++ 93 :: z.data.toList) by rw [tailB, e1]; rfl)
  have HT := hidF hT
  have HI := hidF hI
  have Ht := hidF ht
  clear hT hI ht e1
  go_enter Tryd.func26, Tryd.ntmps26
  go_wp2_with fail
  refine (consume_yes b s 91 _ hP h0 hc0).mono ?_
  rintro e w1 ⟨rfl, hw1⟩
  rw [htail.out] at hw1
  have hP1 : PAt b (mkB (t.data.toList ++ 93 :: z.data.toList)) w1 := by rw [← hw1]; exact hP.put _
  have hg1 : w.grownBy w1 (some b) := by rw [← hw1]; exact grown_set _ _ _
  have hcell := hP1.cell
  clear hw1
  go_wp2_with fail
  have Htl := hidF (size_of_list t)
  have hts := hs
  go_loopw [5] (fun dv wr => ∃ n : Nat, n ≤ t.size ∧ dv = .int .i64 n ∧ PAt b (mkB (t.data.toList.drop n ++ 93 :: z.data.toList)) wr ∧ w.grownBy wr (some b)) (fun dv _ => t.size - (intOf dv).toNat)
  case atStart => exact ⟨0, Nat.zero_le _, rfl, by rw [List.drop_zero]; exact hP1, hg1⟩
  case round =>
    obtain ⟨n, hn, rfl, hPr, hgr⟩ := hrel
    have hcr := hPr.cell
    have hfr := hPr.free
    by_cases hlt2 : n < t.size
    · have hd := drop_cons t n hlt2
      have hnum := Ht.out t[n] (List.mem_of_getElem? (get_of t n hlt2))
      have hasc := numC_ascii _ hnum
      obtain ⟨u, hu⟩ : ∃ u, u = mkB (t.data.toList.drop n ++ 93 :: z.data.toList) := ⟨_, rfl⟩
      have hul : u.data.toList = t[n] :: (t.data.toList.drop (n + 1) ++ 93 :: z.data.toList) := by rw [hu, mkB_list, hd]; rfl
      rw [← hu] at hPr hcr
      have hu0 : 0 < u.size := by rw [size_of_list, hul]; simp
      have hu1 : (((u[0]'hu0).toNat : Nat) : Int) = (t[n].toNat : Int) := by
        have := drop_cons u 0 hu0
        rw [List.drop_zero, hul] at this
        rw [← (List.cons.inj this).1]
      have hut := hidF (show tailB u = mkB (t.data.toList.drop (n + 1) ++ 93 :: z.data.toList) by rw [tailB, hul]; rfl)
      have q1 : (((((u[0]'hu0).toNat : Nat) : Int)) == 93) = false := by
        rw [hu1]
        refine beq_eq_false_iff_ne.2 ?_
        rcases hnum with h | h
        · omega
        · rw [h]; decide
      have q2 : ((t[n].toNat : Int) == 65533) = false := beq_eq_false_iff_ne.2 (by omega)
      have hdec := hidF (Tryd.utf8_DecodeRuneInString u wr (HT.out wr hgr))
      have hdu := hidF (show Lib.decodeGo u = (t[n].toNat, 1) by
        rw [← list_mkB u, decodeGo_mkB, hul, if_neg (by simp)]
        exact decode_ascii_l _ _ hasc)
      have hdt := hidF (isDtext_num t[n] hnum)
      have hx := from_one u
      have Hu := hidF hu
      clear hu hul hu1 hd hnum hasc
      go_wp2_with fail
      refine (empty_any b u wr hPr hu0).mono ?_
      rintro e w2 ⟨rfl, rfl⟩
      go_wp2_with fail
      refine (peek_any b u wr hPr hu0).mono ?_
      rintro e w2 ⟨rfl, rfl⟩
      go_wp2_with fail
      refine hdec.out.mono ?_
      rintro e w2 ⟨rfl, hb2⟩
      rw [hdu.out]
      have hP2 := hPr.below hb2 hPr.lt
      have hg2 := grown_trans hgr (grown_below hb2 (Nat.le_refl _) (some b))
      have hc2 := hP2.cell
      have hf2 := hP2.free
      clear hdec hdu hcr hfr
      go_wp2_with fail
      refine (hdt.out w2).mono ?_
      rintro e w3 ⟨rfl, rfl⟩
      have hP3 := hP2.put (tailB u)
      have hg3 := grown_trans hg2 (grown_set w2 b (.string (tailB u)))
      go_wp2_with fail
      go_roundw
      case rel => exact ⟨n + 1, hlt2, by go_num, by rw [← hut.out]; exact hP3, hg3⟩
      case measure => simp [intOf]; omega
    · have hnt : n = t.size := by omega
      have hdr : t.data.toList.drop n ++ 93 :: z.data.toList = 93 :: z.data.toList := by rw [drop_end t n hlt2]; rfl
      rw [hdr] at hPr hcr
      obtain ⟨u, hu⟩ : ∃ u, u = mkB (93 :: z.data.toList) := ⟨_, rfl⟩
      have hul : u.data.toList = 93 :: z.data.toList := by rw [hu, mkB_list]
      rw [← hu] at hPr hcr
      have hu0 : 0 < u.size := by rw [size_of_list, hul]; simp
      have hu1 : (((u[0]'hu0).toNat : Nat) : Int) = 93 := by
        have := drop_cons u 0 hu0
        rw [List.drop_zero, hul] at this
        rw [← (List.cons.inj this).1]; rfl
      have hut := hidF (show tailB u = z by rw [tailB, hul]; exact list_mkB z)
      have q1 : (((((u[0]'hu0).toNat : Nat) : Int)) == 93) = true := beq_iff_eq.2 hu1
      have hux := hidF hu1
      clear hu hul hu1 hdr
      go_wp2_with fail
      refine (empty_any b u wr hPr hu0).mono ?_
      rintro e w2 ⟨rfl, rfl⟩
      go_wp2_with fail
      refine (peek_any b u wr hPr hu0).mono ?_
      rintro e w2 ⟨rfl, rfl⟩
      have hsz2 : (t.size : Int) ≤ ((mkB (t.data.toList ++ 93 :: z.data.toList)).size : Int) := by rw [size_mkB, List.length_append, ← size_of_list]; omega
      have hxt : (mkB (t.data.toList ++ 93 :: z.data.toList)).extract 0 t.size = t := by rw [take_mkB, mkB_list, size_of_list t, List.take_left, list_mkB]
      subst hnt
      go_wp2_with fail
      refine (consume_yes b u 93 _ hPr hu0 hux.out).mono ?_
      rintro e w3 ⟨rfl, hw3⟩
      rw [hut.out] at hw3
      have hP3 : PAt b z w3 := by rw [← hw3]; exact hPr.put z
      have hg3 : w.grownBy w3 (some b) := by rw [← hw3]; exact grown_trans hgr (grown_set _ _ _)
      clear hw3 hsz2 hxt hcr hfr
      go_wp2_with (first | (go_at_call 43; go_in) | (go_at_call 60; go_in) | fail)
      refine (Tryd.stringslite_HasPrefix t ⟨#[73, 80, 118, 54, 58]⟩ w3).mono ?_
      rintro e w4 ⟨rfl, rfl⟩
      have hno : Lib.hasPrefix t.data.toList (⟨#[73, 80, 118, 54, 58]⟩ : ByteArray).data.toList = false := by
        cases hx : t.data.toList with
        | nil => rfl
        | cons c r =>
          have hc : c ≠ 73 := by
            rcases Ht.out c (by rw [hx]; simp) with h | h
            · intro e; rw [e] at h; exact absurd h (by decide)
            · rw [h]; decide
          show (([73, 80, 118, 54, 58] : List UInt8).isPrefixOf (c :: r)) = false
          simp [List.isPrefixOf, Ne.symm hc]
      rw [hno]
      clear hno
      have hI := hidF (HI.out _ hg3)
      have n1 : ¬ 9223372036854775807 < 1 + t.size := by omega
      have n2 : ¬ 9223372036854775807 < 1 + t.size + 1 := by omega
      go_wp2_with fail
      refine hI.out.mono ?_
      rintro e w5 ⟨rfl, hb5⟩
      go_wp2_with fail
      go_ret2
      exact ⟨rfl, hP3.below hb5 hP3.lt, grown_trans hg3 (grown_below hb5 (Nat.le_refl _) _)⟩
end Go.Proofs.YtolbedmmjennoaaDoor
