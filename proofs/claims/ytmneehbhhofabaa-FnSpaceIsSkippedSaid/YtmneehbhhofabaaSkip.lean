/- The walks of skipCFWS, the reference's Skip, the statement's own text: FnSpaceIsSkipped's road. -/
import Derived.Test.YtmneehbhhofabaaCfws
namespace Go.Proofs.Ytmneehbhhofabaa
open Go.RowKit

theorem trim_stop (l : List UInt8) (h : ∀ c r, trimL l = c :: r → c ≠ 40) : skipF l 0 false = (trimL l, true) := by
  rw [← skip_trim]
  cases hl : trimL l with
  | nil => rfl
  | cons c r => exact skip_stop c r (h c r hl) (trim_head l c r hl)

theorem trimL_trimL (l : List UInt8) : trimL (trimL l) = trimL l := by
  cases hl : trimL l with
  | nil => rfl
  | cons c r => rw [trimL, if_neg (by rw [trim_head l c r hl]; decide)]

theorem size_of_list (s : ByteArray) : s.size = s.data.toList.length := by rw [Array.length_toList]; rfl

set_option maxHeartbeats 1000000 in
set_option maxRecDepth 100000 in
theorem skipCFWS_any (b : Nat) (s : ByteArray) (w : World) (hP : PAt b s w) (hs : s.size ≤ 1000000000) :
    Calls Try.prog 16 #[.pointer (some ⟨b, 0, none⟩)] w fun e w' =>
      ∃ t : ByteArray, e = .returned (.bool (skipF s.data.toList 0 false).2) ∧ PAt b t w' ∧ ((skipF s.data.toList 0 false).2 = true → t.data.toList = (skipF s.data.toList 0 false).1) ∧ w.grownBy w' (some b) := by
  go_enter Try.func16, Try.ntmps16
  go_wp2_with fail
  refine (skipSpace_any b s _ hP (by omega)).mono ?_
  rintro e W1 ⟨rfl, hP1, hg1⟩
  go_wp2_with fail
  go_loopw [] (fun wr => ∃ (t : ByteArray), PAt b t wr ∧ w.grownBy wr (some b) ∧ Hid (skipF t.data.toList 0 false = skipF s.data.toList 0 false) ∧ t.size ≤ s.size ∧ Hid (trimL t.data.toList = t.data.toList)) (fun wr => pLen b wr)
  case atStart =>
    refine ⟨trimB s, hP1, hg1, ?_, ?_, ?_⟩
    · show skipF _ _ _ = _
      rw [trimB_list, skip_trim]
    · rw [size_of_list, size_of_list, trimB_list]; exact trim_length _
    · show trimL _ = _
      rw [trimB_list, trimL_trimL]
  case round =>
    obtain ⟨t, hPt, hgr, hsk, hts, htr⟩ := hrel
    have hlt := hPt.lt
    by_cases h40 : ∃ h0 : 0 < t.size, t[0] = 40
    · obtain ⟨h0, h40⟩ := h40
      have hH := hidF h40
      have h40i : ((t[0].toNat : Int)) = 40 := by rw [h40]; rfl
      clear h40
      have hcons := hidF (list_cons t h0)
      have hcy := hidF (consume_yes b t 40 wr hPt h0 h40i)
      clear h40i
      go_wp2_with fail
      refine hcy.out.mono ?_
      rintro e W2 ⟨rfl, rfl⟩
      have hP2 := hPt.put (tailB t)
      have hg2 := grown_set wr b (.string (tailB t))
      have hsz : (tailB t).size < t.size := by rw [tailB_size]; omega
      generalize wr.setCell ⟨b, 0, none⟩ (.string (tailB t)) = W2 at hP2 hg2 ⊢
      go_wp2_with fail
      refine (consumeComment_any b (tailB t) _ hP2 (by omega)).mono ?_
      rintro e W3 ⟨x, t3, rfl, hP3, ht3, hg3⟩
      have hlen := comment_length (tailB t).data.toList 1 false
      have ho := skip_open (tailB t).data.toList
      rw [← hH.out, ← hcons.out] at ho
      have Ho := hidF ho
      have Ht3 := hidF ht3
      have Hlen := hidF hlen
      clear ho ht3 hlen
      by_cases hcm : (comment (tailB t).data.toList 1 false).2 = true
      · rw [hcm]
        have Hcm := hidF hcm
        clear hcm
        go_wp2_with fail
        refine (skipSpace_any b t3 _ hP3 ?_).mono ?_
        · have h1 := Hlen.out
          rw [← Ht3.out, ← size_of_list, ← size_of_list] at h1
          omega
        rintro e W4 ⟨rfl, hP4, hg4⟩
        have hl4 : (trimB t3).size < t.size := by
          have h1 := Hlen.out
          rw [← Ht3.out, ← size_of_list, ← size_of_list] at h1
          have h2 := trim_length t3.data.toList
          rw [← trimB_list, ← size_of_list, ← size_of_list] at h2
          omega
        go_wp2_with fail
        go_roundw
        case rel =>
          refine ⟨trimB t3, hP4, grown_trans hgr (grown_trans hg2 (grown_trans hg3 hg4)), ?_, by omega, ?_⟩
          · show skipF _ _ _ = _
            rw [← hsk.out, Ho.out, if_pos Hcm.out, trimB_list, skip_trim, Ht3.out]
          · show trimL _ = _
            rw [trimB_list, trimL_trimL]
        case measure =>
          rw [PAt.pLen hPt, PAt.pLen hP4]; exact hl4
      · have hcm' : (comment (tailB t).data.toList 1 false).2 = false := by simpa using hcm
        rw [hcm']
        have Hcm := hidF hcm
        clear hcm hcm'
        go_wp2_with fail
        go_ret
        refine ⟨t3, ?_, hP3, ?_, grown_trans hgr (grown_trans hg2 hg3)⟩
        · rw [← hsk.out, Ho.out, if_neg Hcm.out]; rfl
        · intro h
          rw [← hsk.out, Ho.out, if_neg Hcm.out] at h
          exact absurd h (by decide)
    · have hfin : skipF t.data.toList 0 false = (t.data.toList, true) := by
        rw [trim_stop _ ?_, htr.out]
        intro c r hc hc40
        rw [htr.out] at hc
        apply h40
        have h0 : 0 < t.size := by rw [size_of_list, hc]; simp
        refine ⟨h0, ?_⟩
        rw [list_cons t h0] at hc
        injection hc with h1 _
        rw [h1, hc40]
      have Hfin := hidF hfin
      clear hfin
      have hcn := hidF (consume_no b t 40 wr hPt (fun h0 e => h40 ⟨h0, by apply UInt8.toNat_inj.1; simpa using (by omega : t[0].toNat = 40)⟩))
      clear h40
      go_wp2_with fail
      refine hcn.out.mono ?_
      rintro e W2 ⟨rfl, rfl⟩
      go_wp2_with fail
      go_ret
      refine ⟨t, ?_, hPt, ?_, hgr⟩
      · rw [← hsk.out, Hfin.out]
        rfl
      · intro _
        rw [← hsk.out, Hfin.out]

end Go.Proofs.Ytmneehbhhofabaa
