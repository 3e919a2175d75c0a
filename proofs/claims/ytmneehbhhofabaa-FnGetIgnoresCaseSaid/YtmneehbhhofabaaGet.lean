/- Header.Get over a header made of fields: the walks. -/
import Derived.Test.YtmneehbhhofabaaHeader
namespace Go.Proofs.Ytmneehbhhofabaa
open Go.RowKit
open Go.Maps (Keyed)

/-- The first value under a name. -/
def firstVal (fs : List (ByteArray × ByteArray)) (k : ByteArray) : Value := (valsOf fs k).headD (.string ⟨#[]⟩)

theorem Hdr.below {w w' : World} {B n : Nat} {fs : List (ByteArray × ByteArray)} (h : Hdr w B n fs) (hb : Below w.heap.size w w') : Hdr w' B n fs := by
  obtain ⟨D, val, hown, hIs, hat, hrow, hap⟩ := h
  exact ⟨D, val, ownsMap_at hown (hb.block B hown.lt), hIs, hat, fun k => (hrow k).kept (grown_below hb (Nat.le_refl _) none) (by cases (val k).ownBlock <;> simp), hap⟩

set_option maxHeartbeats 1000000 in
set_option maxRecDepth 100000 in
theorem mimeGet_any (m n : Nat) (fs : List (ByteArray × ByteArray)) (key : ByteArray) (w : World) (hH : Hdr w m n fs) (hk : key.size ≤ 2147483647) (hnm : key.data.toList.all nameC = true) :
    Calls Try.prog 17 #[.map (some m), .string key] w fun e w' => e = .returned (firstVal fs (mkB (canon key.data.toList))) ∧ Below w.heap.size w w' := by
  have hne := fun W : World => run_eql_map_nil (P := Try.prog) W _ _ _ (some m) Try.underlying42
  go_enter Try.func17, Try.ntmps17
  go_wp2_with fail
  refine (canonKey_name key w hk hnm).mono ?_
  rintro e w1 ⟨rfl, hb⟩
  have hlen : (mkB (canon key.data.toList)).size ≤ maxLen := by
    rw [size_mkB]; unfold canon; rw [canF_length, Array.length_toList]
    show key.size ≤ _; unfold maxLen; omega
  obtain ⟨K, hK⟩ : ∃ K, K = mkB (canon key.data.toList) := ⟨_, rfl⟩
  rw [← hK] at hlen ⊢
  have HK := hidF hK
  clear hK
  obtain ⟨D, val, hown, hIs, hat, hrow, hap⟩ := hH.below hb
  have hlk : (Instr.lookup 42 (.map (some m)) (.string K) false).run Try.prog w1 = .ok (val K) w1 := by
    obtain ⟨x, ps, hrun, hx⟩ := hown.lookup keyedStr Try.underlying42 (show (zeroValue 25).run Try.prog w1 = .ok nilV w1 by kernel_rfl) (show rawR nilV = some (.held nilV, []) from rfl) (keyOf_str K hlen)
    rw [hat K] at hx
    have : x = val K := by simp [rawR] at hx; exact hx.1
    rw [← this]; exact hrun
  have hr := hrow K
  obtain ⟨vs, hvs⟩ : ∃ vs, vs = valsOf fs K := ⟨_, rfl⟩
  obtain ⟨fv, hfv⟩ : ∃ fv, fv = firstVal fs K := ⟨_, rfl⟩
  have hfv2 : fv = vs.headD (.string ⟨#[]⟩) := by rw [hfv, hvs]; rfl
  rw [← hvs] at hr
  have Hfv := hidF hfv
  have hone := hr.1
  rcases hr.2 with ⟨hv, h0⟩ | ⟨g, cap, cur, hv, hbg, hg, hnc, hcm, hcs, htake⟩
  · rw [hv] at hlk
    have hz : vs = [] := List.length_eq_zero_iff.1 h0
    have Hfin := hidF (show fv = .string ⟨#[]⟩ by rw [hfv2, hz]; rfl)
    clear hat hrow hap hr hfv hfv2 hvs hone h0 hv hz hIs
    go_wp2_with fail
    go_ret
    exact ⟨by rw [← HK.out, ← Hfv.out, Hfin.out]; rfl, hb⟩
  · rw [hv] at hlk
    cases vs with
    | nil =>
      have Hfin := hidF (show fv = .string ⟨#[]⟩ by rw [hfv2]; rfl)
      clear hat hrow hap hr hfv hfv2 hvs hone hv hIs
      go_wp2_with fail
      go_ret
      exact ⟨by rw [← HK.out, ← Hfv.out, Hfin.out]; rfl, hb⟩
    | cons x r =>
      have Hfin := hidF (show fv = x by rw [hfv2]; rfl)
      have hcell : w1.cell? ⟨g, 0, none⟩ = some x := by
        rw [Lib.cell_of_heap hg 0]
        have h1 : cur.toList.take ((x :: r).length * 1) = x :: r := htake
        have h2 : (cur.toList.take ((x :: r).length * 1))[0]? = some x := by rw [h1]; rfl
        rw [List.getElem?_take] at h2
        simpa using h2
      have hpos : (0 : Int) < ((x :: r).length : Int) := by simp
      have hnz : (((x :: r).length : Int) == 0) = false := by rw [beq_eq_false_iff_ne]; omega
      obtain ⟨L, hL⟩ : ∃ L, L = (x :: r).length := ⟨_, rfl⟩
      rw [← hL] at hlk hpos hnz hnc
      clear hat hrow hap hr hfv hfv2 hvs hone hv hIs htake hcs hL
      go_wp2_with fail
      go_ret
      exact ⟨by rw [← HK.out, ← Hfv.out, Hfin.out]; rfl, hb⟩

set_option maxHeartbeats 1000000 in
theorem mailGet_any (m n : Nat) (fs : List (ByteArray × ByteArray)) (key : ByteArray) (w : World) (hH : Hdr w m n fs) (hk : key.size ≤ 2147483647) (hnm : key.data.toList.all nameC = true) :
    Calls Try.prog 15 #[.map (some m), .string key] w fun e w' => e = .returned (firstVal fs (mkB (canon key.data.toList))) ∧ Below w.heap.size w w' := by
  go_enter Try.func15, Try.ntmps15
  go_wp2_with fail
  refine (mimeGet_any m n fs key _ hH hk hnm).mono ?_
  rintro e w1 ⟨rfl, hb⟩
  go_wp2_with fail
  go_ret
  exact ⟨rfl, hb⟩

set_option maxHeartbeats 1000000 in
theorem get_some (G n cap : Nat) (fs : List (ByteArray × ByteArray)) (key : ByteArray) (w : World) (hf : FRow w G fs) (hG : G < w.heap.size) (hn : fs.length = n) (hs : n ≤ 1000) (hsm : ∀ p ∈ fs, p.1.size ≤ 2147483647) (hk : key.size ≤ 2147483647) (hnm : key.data.toList.all nameC = true) :
    Calls Try.prog 11 #[.slice (some ⟨G, 0, none⟩) n cap, .string key] w fun e w' => e = .returned (firstVal fs (mkB (canon key.data.toList))) ∧ Below w.heap.size w w' := by
  have hc := hidF (header_some G n cap fs w hf hG hn hs hsm)
  clear hn hsm
  go_enter Try.func11, Try.ntmps11
  go_wp2_with fail
  refine hc.out.mono ?_
  rintro e w1 ⟨m, rfl, hm, hH, hb⟩
  go_wp2_with fail
  refine (mailGet_any m n fs key _ hH hk hnm).mono ?_
  rintro e w2 ⟨rfl, hb2⟩
  go_wp2_with fail
  go_ret
  exact ⟨rfl, hb.trans (hb2.mono hb.size)⟩


set_option maxHeartbeats 1000000 in
theorem header_none (w : World) :
    Calls Try.prog 14 #[.slice none 0 0] w fun e w' => ∃ m, e = .returned (.map (some m)) ∧ w.heap.size ≤ m ∧ Hdr w' m 0 [] ∧ Below w.heap.size w w' := by
  have hmm := @run_makeMap Try.prog
  go_enter Try.func14, Try.ntmps14
  go_wp2
  go_loopw [9] (fun iv wr => iv = .int .i64 0 ∧ Hdr wr w.heap.size 0 [] ∧ Below w.heap.size w wr) (fun _ _ => 0)
  case atStart => exact ⟨rfl, Hdr.made w, (Below.refl _ w).alloc (Nat.le_refl _) _⟩
  case round =>
    obtain ⟨rfl, hH, hb⟩ := hrel
    go_wp2_with fail
    go_ret
    exact ⟨_, rfl, Nat.le_refl _, hH, hb⟩

set_option maxHeartbeats 1000000 in
theorem get_none (key : ByteArray) (w : World) (hk : key.size ≤ 2147483647) (hnm : key.data.toList.all nameC = true) :
    Calls Try.prog 11 #[.slice none 0 0, .string key] w fun e w' => e = .returned (.string ⟨#[]⟩) ∧ Below w.heap.size w w' := by
  go_enter Try.func11, Try.ntmps11
  go_wp2_with fail
  refine (header_none _).mono ?_
  rintro e w1 ⟨m, rfl, hm, hH, hb⟩
  go_wp2_with fail
  refine (mailGet_any m 0 [] key _ hH hk hnm).mono ?_
  rintro e w2 ⟨rfl, hb2⟩
  go_wp2_with fail
  go_ret
  exact ⟨rfl, hb.trans (hb2.mono hb.size)⟩

end Go.Proofs.Ytmneehbhhofabaa
