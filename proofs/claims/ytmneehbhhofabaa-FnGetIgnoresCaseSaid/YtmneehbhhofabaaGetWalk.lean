/- FnGetIgnoresCase: the walk of the statement's own text. -/
import Derived.Test.YtmneehbhhofabaaGetLaw
namespace Go.Proofs.Ytmneehbhhofabaa
open Go.RowKit

theorem isName_all {l : List UInt8} (h : isName l = true) : l.all nameC = true := by
  unfold isName at h; rw [Bool.and_eq_true] at h; exact h.1

set_option maxHeartbeats 4000000 in
set_option maxRecDepth 100000 in
theorem getWalk (ak av : Option Addr) (lk ck lv cv : Nat) (ks vs : List ByteArray) (key : ByteArray) (w : World) (hK : StrRow w ak lk ck ks) (hV : StrRow w av lv cv vs) (hkey : key.size ≤ maxLen) :
    Calls Try.prog 4 #[.slice ak lk ck, .slice av lv cv, .string key] w fun e w' => e = .returned (.bool true) ∧ Below w.heap.size w w' := by
  unfold maxLen at hkey
  have hkb := hK.bound
  have hvb := hV.bound
  have HfK := hidF (fits_any ak lk ck ks w hK)
  have HfV := hidF (fits_any av lv cv vs w hV)
  obtain ⟨i0, hi0, hz0, hz1, hz2⟩ := info_parts infoField
  have HKl := hidF hK.length
  have HVl := hidF hV.length
  have hr0 := Below.refl w.heap.size w
  go_enter Try.func4, Try.ntmps4
  go_wp2_with fail
  refine HfK.out.mono ?_
  rintro e w1 ⟨rfl, rfl⟩
  by_cases hfk : fitsL ks = true
  · rw [hfk]
    have hfk2 := hidF (fitsL_get hfk)
    clear hfk
    go_wp2_with fail
    refine HfV.out.mono ?_
    rintro e w1 ⟨rfl, rfl⟩
    by_cases hfv : fitsL vs = true
    · rw [hfv]
      have hfv2 := hidF (fitsL_get hfv)
      clear hfv
      by_cases hkl : 2147483647 < key.size
      · have e1 : (2147483647 : Int) < (key.size : Int) := by omega
        go_wp2_with fail
        go_ret
        exact ⟨rfl, hr0⟩
      · have e1 : ¬ (2147483647 : Int) < (key.size : Int) := by omega
        by_cases hk100 : 100 < lk
        · have e2 : (100 : Int) < (lk : Int) := by omega
          go_wp2_with fail
          go_ret
          exact ⟨rfl, hr0⟩
        · have e2 : ¬ (100 : Int) < (lk : Int) := by omega
          by_cases hlv : lv = lk
          · subst hlv
            have e3 : ((lv : Int) != (lv : Int)) = false := bne_self_eq_false _
            go_wp2_with fail
            refine (isName_any key w (by omega)).mono ?_
            rintro e w1 ⟨rfl, rfl⟩
            by_cases hnk : isName key.data.toList = true
            · rw [hnk]
              have hnk2 := hidF (isName_all hnk)
              clear hnk
              go_wp2_with fail
              go_loopw [7, 8, 9, 42] (fun l want found iv wr => ∃ (k : Nat) (s : ByteArray) (b : Bool), k ≤ lv ∧ iv = .int .i64 k ∧ wr.ownsRow w.heap.size 30 2 l k (flat (fieldsOf (ks.take k) (vs.take k))) ∧ want = .string s ∧ found = .bool b ∧
                  Hid (firstVal (fieldsOf (ks.take k) (vs.take k)) (mkB (canon key.data.toList)) = .string s) ∧ Hid (foundIn (fieldsOf (ks.take k) (vs.take k)) (mkB (canon key.data.toList)) = b) ∧ Below w.heap.size w wr) (fun _ _ _ iv _ => lv - (intOf iv).toNat)
              case atStart => exact ⟨0, ⟨#[]⟩, false, Nat.zero_le _, rfl, World.ownsRow_nil _ _ _ _, rfl, rfl, rfl, rfl, hr0⟩
              case round =>
                obtain ⟨k, s, b, hk, rfl, hown, rfl, rfl, hfirst, hfound, hb⟩ := hrel
                by_cases hkl2 : k < lv
                · have hgk := List.getElem?_eq_getElem (l := ks) (i := k) (by rw [HKl.out]; exact hkl2)
                  have hgv := List.getElem?_eq_getElem (l := vs) (i := k) (by rw [HVl.out]; exact hkl2)
                  obtain ⟨kk, hkk⟩ : ∃ kk, kk = ks[k]'(by rw [HKl.out]; exact hkl2) := ⟨_, rfl⟩
                  obtain ⟨vv, hvv⟩ : ∃ vv, vv = vs[k]'(by rw [HVl.out]; exact hkl2) := ⟨_, rfl⟩
                  rw [← hkk] at hgk
                  rw [← hvv] at hgv
                  have hkks : kk.size ≤ 2147483647 := hfk2.out.2 _ (List.mem_of_getElem? hgk)
                  have hvvs : vv.size ≤ 2147483647 := hfv2.out.2 _ (List.mem_of_getElem? hgv)
                  have hsnoc := fieldsOf_snoc ks vs k kk vv hgk hgv
                  rcases hK with ⟨_, h1, _⟩ | ⟨bk, ok, rfl, hkc, hkm, hksl, hkw, hkcell⟩
                  · omega
                  · rcases hV with ⟨_, h1, _⟩ | ⟨bv, ov, rfl, hvc, hvm, hvsl, hvw, hvcell⟩
                    · omega
                    · have hbklt := hkw (by omega)
                      have hbvlt := hvw (by omega)
                      have hck := (hb.cell (p := ⟨bk, ok + k, none⟩) hbklt).trans (hkcell k kk hgk)
                      have Hcv := hidF (hvcell k vv hgv)
                      have Hsn := hidF hsnoc
                      clear hkk hvv hgk hgv hsnoc hkcell hvcell hkw hvw hksl hvsl
                      have hin := hidF (isName_any kk wr (by omega))
                      go_wp2_with fail
                      refine hin.out.mono ?_
                      rintro e w1 ⟨rfl, rfl⟩
                      by_cases hnkk : isName kk.data.toList = true
                      · rw [hnkk]
                        clear hnkk
                        go_wp2_with fail
                        refine (specCanonical_any kk wr hkks).mono ?_
                        rintro e w1 ⟨rfl, hb1⟩
                        have hcv : w1.cell? ⟨bv, ov + k, none⟩ = some (.string vv) := ((hb.trans (hb1.mono hb.size)).cell (p := ⟨bv, ov + k, none⟩) hbvlt).trans Hcv.out
                        obtain ⟨cc, hcc⟩ : ∃ cc, cc = mkB (canon kk.data.toList) := ⟨_, rfl⟩
                        rw [← hcc] at Hsn ⊢
                        have hown1 : w1.ownsRow w.heap.size 30 2 _ k _ := hown.kept (grown_below hb1 (Nat.le_refl _) none) (by cases (Value.ownBlock _) <;> simp)
                        have hsz1 := hb1.size
                        have hsz0 := hb.size
                        clear hcc
                        have hb01 := hidF (hb.trans (hb1.mono hsz0))
                        have hrowlt := hidF (fun g hg => (hown1.lt g hg).1)
                        have hk1 : (canon key.data.toList).length ≤ 2147483647 := by unfold canon; rw [canF_length, Array.length_toList]; show key.size ≤ _; omega
                        cases b with
                        | true =>
                          go_wp2_with (at_builtin; refine wpList_append_lies _ rfl (.tmp 52) (.tmp 59) 27 rfl w.heap.size 30 i0 _ 2 32 Try.underlying27 hi0 hz0 hz1 hz2 rfl (by omega) _ k _ rfl (hown1.alloc _) ⟨w1.heap.size, 0, none⟩ 1 1 [.string cc, .string vv] rfl rfl (World.news_of_block (cs := #[.string cc, .string vv]) (t := 30) (fr := (0, 0)) (heap_alloc_new w1 _)) (by simp [Value.oneCell']) (by omega) (by unfold maxLen; omega) (by omega) (by simp; omega) (w1.heap.size + 1) (by simp) ?_; intro g cap2 w2 hown2 hgrow hwhere hlt2)
                          have hb2 : Below w.heap.size w w2 := hb01.out.trans (((Below.refl w.heap.size w1).alloc (by omega) _).trans (below_row hgrow hrowlt.out (by simp; omega)))
                          have hown3 : w2.ownsRow w.heap.size 30 2 (.slice (some ⟨g, 0, none⟩) (k + 1) cap2) (k + 1) (flat (fieldsOf (ks.take (k + 1)) (vs.take (k + 1)))) := by rw [Hsn.out, flat_snoc]; exact hown2
                          go_roundw
                          case rel =>
                            refine ⟨k + 1, s, true, by omega, by go_num, hown3, rfl, rfl, ?_, ?_, hb2⟩
                            · show firstVal _ _ = _
                              rw [Hsn.out, firstVal_snoc, if_pos hfound.out]; exact hfirst.out
                            · show foundIn _ _ = _
                              rw [Hsn.out, found_snoc, hfound.out]; rfl
                          case measure => simp [intOf]; omega
                        | false =>
                          go_wp2_with (at_builtin; refine wpList_append_lies _ rfl (.tmp 52) (.tmp 59) 27 rfl w.heap.size 30 i0 _ 2 32 Try.underlying27 hi0 hz0 hz1 hz2 rfl (by omega) _ k _ rfl (hown1.alloc _) ⟨w1.heap.size, 0, none⟩ 1 1 [.string cc, .string vv] rfl rfl (World.news_of_block (cs := #[.string cc, .string vv]) (t := 30) (fr := (0, 0)) (heap_alloc_new w1 _)) (by simp [Value.oneCell']) (by omega) (by unfold maxLen; omega) (by omega) (by simp; omega) (w1.heap.size + 1) (by simp) ?_; intro g cap2 w2 hown2 hgrow hwhere hlt2)
                          have hb2 : Below w.heap.size w w2 := hb01.out.trans (((Below.refl w.heap.size w1).alloc (by omega) _).trans (below_row hgrow hrowlt.out (by simp; omega)))
                          have hown3 : w2.ownsRow w.heap.size 30 2 (.slice (some ⟨g, 0, none⟩) (k + 1) cap2) (k + 1) (flat (fieldsOf (ks.take (k + 1)) (vs.take (k + 1)))) := by rw [Hsn.out, flat_snoc]; exact hown2
                          refine (specCanonical_any key w2 (by omega)).mono ?_
                          rintro e w3 ⟨rfl, hb3⟩
                          have hb4 : Below w.heap.size w w3 := hb2.trans (hb3.mono hb2.size)
                          have hown4 : w3.ownsRow w.heap.size 30 2 (.slice (some ⟨g, 0, none⟩) (k + 1) cap2) (k + 1) (flat (fieldsOf (ks.take (k + 1)) (vs.take (k + 1)))) := hown3.kept (grown_below hb3 (Nat.le_refl _) none) (by simp [Value.ownBlock])
                          obtain ⟨K, hKK⟩ : ∃ K, K = mkB (canon key.data.toList) := ⟨_, rfl⟩
                          rw [← hKK] at hfirst hfound ⊢
                          have HKK := hidF hKK
                          clear hKK
                          have hfin1 := hidF (show firstVal (fieldsOf (ks.take (k + 1)) (vs.take (k + 1))) K = if cc = K then .string vv else .string ⟨#[]⟩ by
                            rw [Hsn.out, firstVal_snoc, if_neg (by rw [hfound.out]; decide)])
                          have hfin2 := hidF (show foundIn (fieldsOf (ks.take (k + 1)) (vs.take (k + 1))) K = decide (cc = K) by
                            rw [Hsn.out, found_snoc, hfound.out, Bool.false_or])
                          have hs0 := hidF (show Value.string s = .string ⟨#[]⟩ by rw [← hfirst.out, firstVal_none _ _ hfound.out])
                          have hcv2 : w3.cell? ⟨bv, ov + k, none⟩ = some (.string vv) := (hb4.cell (p := ⟨bv, ov + k, none⟩) hbvlt).trans Hcv.out
                          by_cases hcK : cc = K
                          · subst hcK
                            go_wp2_with fail
                            go_roundw
                            case rel =>
                              refine ⟨k + 1, vv, true, by omega, by go_num, hown4, rfl, rfl, ?_, ?_, hb4⟩
                              · show firstVal _ _ = _
                                rw [← HKK.out, hfin1.out]; simp
                              · show foundIn _ _ = _
                                rw [← HKK.out, hfin2.out]; simp
                            case measure => simp [intOf]; omega
                          · have f1 := str_ne hcK
                            have HcK := hidF hcK
                            clear hcK
                            go_wp2_with fail
                            go_roundw
                            case rel =>
                              refine ⟨k + 1, s, false, by omega, by go_num, hown4, rfl, rfl, ?_, ?_, hb4⟩
                              · show firstVal _ _ = _
                                rw [← HKK.out, hfin1.out, if_neg HcK.out, hs0.out]
                              · show foundIn _ _ = _
                                rw [← HKK.out, hfin2.out]; exact decide_eq_false HcK.out
                            case measure => simp [intOf]; omega
                      · have hnkk2 : isName kk.data.toList = false := by simpa using hnkk
                        rw [hnkk2]
                        clear hnkk hnkk2
                        go_wp2_with fail
                        go_ret
                        exact ⟨rfl, hb⟩
                · obtain rfl : k = lv := by omega
                  rw [List.take_of_length_le (by rw [HKl.out]; exact Nat.le_refl _), List.take_of_length_le (by rw [HVl.out]; exact Nat.le_refl _)] at hfirst hfound hown
                  have hsz0 := hb.size
                  have hflen := hidF (show (fieldsOf ks vs).length = k by rw [fieldsOf_length ks vs (by rw [HKl.out, HVl.out]), HKl.out])
                  have hfsm := hidF (show ∀ p ∈ fieldsOf ks vs, p.1.size ≤ 2147483647 from fun p hp => by
                    obtain ⟨i, hi⟩ := List.getElem?_of_mem hp
                    simp only [fieldsOf, List.getElem?_zipWith_eq_some] at hi
                    obtain ⟨x, y, hx, hy, rfl⟩ := hi
                    have := hfk2.out.2 x (List.mem_of_getElem? hx)
                    show (mkB _).size ≤ _
                    rw [size_mkB]; unfold canon; rw [canF_length, Array.length_toList]; exact this)
                  have hsecond := fun (W : World) => get_some W.heap.size 1 1 [(⟨#[65]⟩, ⟨#[98]⟩)] ⟨#[97]⟩ (W.alloc (.cells #[.string ⟨#[65]⟩, .string ⟨#[98]⟩] 30)) (by
                    intro i p hp
                    match i, hp with
                    | 0, hp => simp at hp; subst hp; exact ⟨by simp, by simp⟩) (by simp) rfl (by omega) (by intro p hp; simp at hp; subst hp; decide) (by decide) (by decide)
                  have Hsecond := hidF hsecond
                  clear hsecond
                  have hab : firstVal [(⟨#[65]⟩, ⟨#[98]⟩)] (mkB (canon (⟨#[97]⟩ : ByteArray).data.toList)) = .string ⟨#[98]⟩ := by rfl
                  have Hab := hidF hab
                  clear hab
                  rcases hown.2 with ⟨hv, h0⟩ | ⟨g, cap, cur, hv, hbg, hg, hnc, hcm, hcs, htake⟩
                  · subst hv
                    have hs0 : s = ⟨#[]⟩ := by
                      have h1 : fieldsOf ks vs = [] := List.length_eq_zero_iff.1 (by rw [hflen.out, h0])
                      have h2 := hfirst.out
                      rw [h1] at h2
                      have h3 : Value.string ⟨#[]⟩ = Value.string s := h2
                      injection h3 with h3
                      exact h3.symm
                    subst hs0
                    go_wp2_with fail
                    refine (get_none key wr (by omega) hnk2.out).mono ?_
                    rintro e w1 ⟨rfl, hb1⟩
                    go_wp2_with fail
                    refine (Hsecond.out w1).mono ?_
                    rintro e w2 ⟨rfl, hb2⟩
                    rw [Hab.out]
                    go_wp2_with fail
                    go_ret
                    exact ⟨rfl, (hb.trans (hb1.mono hsz0)).trans (((Below.refl w.heap.size w1).alloc (Nat.le_trans hsz0 hb1.size) _).trans (hb2.mono (by have := hb1.size; simp; omega)))⟩
                  · subst hv
                    have hget := get_some g k cap (fieldsOf ks vs) key wr (fRow_owned hown) (Array.getElem?_eq_some_iff.1 hg).1 hflen.out (by omega) hfsm.out (by omega) hnk2.out
                    rw [hfirst.out] at hget
                    have Hget := hidF hget
                    clear hget htake hcs
                    go_wp2_with fail
                    refine Hget.out.mono ?_
                    rintro e w1 ⟨rfl, hb1⟩
                    go_wp2_with fail
                    refine (Hsecond.out w1).mono ?_
                    rintro e w2 ⟨rfl, hb2⟩
                    rw [Hab.out]
                    go_wp2_with fail
                    go_ret
                    exact ⟨rfl, (hb.trans (hb1.mono hsz0)).trans (((Below.refl w.heap.size w1).alloc (Nat.le_trans hsz0 hb1.size) _).trans (hb2.mono (by have := hb1.size; simp; omega)))⟩
            · have hnk2 : isName key.data.toList = false := by simpa using hnk
              rw [hnk2]
              clear hnk hnk2
              go_wp2_with fail
              go_ret
              exact ⟨rfl, hr0⟩
          · have e3 : ((lv : Int) != (lk : Int)) = true := by rw [bne_iff_ne]; omega
            go_wp2_with fail
            go_ret
            exact ⟨rfl, hr0⟩
    · have hfv2 : fitsL vs = false := by simpa using hfv
      rw [hfv2]
      clear hfv hfv2
      go_wp2_with fail
      go_ret
      exact ⟨rfl, hr0⟩
  · have hfk2 : fitsL ks = false := by simpa using hfk
    rw [hfk2]
    clear hfk hfk2
    go_wp2_with fail
    go_ret
    exact ⟨rfl, hr0⟩

end Go.Proofs.Ytmneehbhhofabaa
