/- base64's DecodeString, gomime's stdEncoding and decode at texts that the reference takes: the walks. -/
import Derived.Test.YtbpoecfbcmdeeaaDoorB64
import Derived.Test.YtbpoecfbcmdeeaaDoorQDec
import Derived.Outline
namespace Go.Proofs.YtbpoecfbcmdeeaaDoor
open Go.RowKit

theorem stdEnc_any (w : World) :
    Calls Tryd.prog 43 #[] w fun e w' => e = .returned (.pointer (some ⟨w.heap.size, 0, none⟩)) ∧ Below w.heap.size w w' ∧ EncAt w' w.heap.size := by
  have hc := hidF (newEnc_any w)
  go_enter Tryd.func43, Tryd.ntmps43
  go_wp2_with fail
  refine hc.out.mono ?_
  rintro e w1 ⟨rfl, hb, he⟩
  go_wp2_with fail
  go_ret
  exact ⟨rfl, hb, he⟩

theorem unbL_out_len : ∀ (n : Nat) (t l : List UInt8), t.length ≤ n → unbL t = some l → 4 * l.length ≤ 3 * t.length
  | 0, t, l, hn, h => by
    have : t = [] := List.eq_nil_of_length_eq_zero (by omega)
    subst this
    rw [unbL] at h
    rw [← Option.some.inj h]; exact Nat.zero_le _
  | n + 1, t, l, hn, h => by
    by_cases hne : t = []
    · subst hne
      rw [unbL] at h
      rw [← Option.some.inj h]; exact Nat.zero_le _
    · obtain ⟨c0, c1, c2, c3, r, q, l2, rfl, hq, hr, rfl⟩ := unbL_step t l h hne
      have ih := unbL_out_len n r l2 (by simp at hn; omega) hr
      have : q.length ≤ 3 := by
        obtain ⟨_, _, _, _, ⟨_, _, _, _, h⟩ | ⟨_, _, _, _, h⟩ | ⟨_, _, _, h⟩⟩ := quadL_forms _ _ _ _ _ _ hq <;> rw [h] <;> simp [three_len]
      simp; omega

set_option maxHeartbeats 2000000 in
set_option maxRecDepth 100000 in
theorem decodeString_any (b : Nat) (s : ByteArray) (l : List UInt8) (w : World) (he : EncAt w b) (hl : unbL s.data.toList = some l) (hne : s.data.toList ≠ []) (hsz : s.size ≤ 100000) :
    Calls Tryd.prog 44 #[.pointer (some ⟨b, 0, none⟩), .string s] w (CAt w l) := by
  obtain ⟨G, hG⟩ := unbL_four _ _ _ (Nat.le_refl _) hl
  have hsl := size_of_list s
  have hlen0 : 0 < s.data.toList.length := List.length_pos_iff.2 hne
  have hG1 : 1 ≤ G := by omega
  have hD : s.size / 4 * 3 = 3 * G := by omega
  have hlt := he.lt
  obtain ⟨D, hDD⟩ : ∃ D, D = 3 * G := ⟨_, rfl⟩
  have hmk : ∀ w, (Instr.makeSlice 39 (.int .i64 (D : Int)) (.int .i64 (D : Int))).run Tryd.prog w = .ok (.slice (some ⟨w.heap.size, 0, none⟩) D D) (w.alloc (.cells (madeCells #[.int .u8 0] D) 5)) := fun w => run_make_row' 39 5 (.int .u8 0) 1 Tryd.underlying39 infoByteB rfl .i64 .i64 D (by omega) (by omega) w
  have hlenc := hidF (DecodedLen_any b s.size w (by omega) he)
  rw [hD, ← hDD] at hlenc
  have hr0 := Row.zeros w D 5
  have hb0 : Below w.heap.size w (w.alloc (.cells (madeCells #[.int .u8 0] D) 5)) := (Below.refl _ _).alloc (Nat.le_refl _) _
  have hz0 : (w.alloc (.cells (madeCells #[.int .u8 0] D) 5)).heap.size = w.heap.size + 1 := by simp
  have he0 := he.alloc (.cells (madeCells #[.int .u8 0] D) 5)
  obtain ⟨wm, hwm⟩ : ∃ wm, wm = w.alloc (.cells (madeCells #[.int .u8 0] D) 5) := ⟨_, rfl⟩
  rw [← hwm] at hr0 hb0 hz0 he0
  obtain ⟨cap, w1, hconv, hc1, hc2, hrow, hbel, hlt1⟩ := bytes_of s wm (by unfold maxLen; omega)
  have hr1 : Row w1 w.heap.size (List.replicate D 0) := hr0.below hbel (by omega)
  have he1 : EncAt w1 b := (hbel.block b (by omega)).trans he0
  have hdec := hidF (decode64_any b w.heap.size wm.heap.size G cap s.data.toList l w1 he1 (by omega) (by omega) hl hG hG1 (by omega) (by omega) (fun j c hj => hrow.cell hj) (List.replicate D 0) hr1 (by rw [List.length_replicate]; exact hDD))
  rw [← hsl, ← hDD] at hdec
  have hbw : Below w.heap.size w w1 := hb0.trans (hbel.mono (by omega))
  have hlD := hidF (show l.length ≤ D by
    have := unbL_out_len _ _ _ (Nat.le_refl _) hl
    omega)
  rw [hz0] at hdec hconv
  rw [hwm] at hconv
  have hlDi : (l.length : Int) ≤ (D : Int) := by have := hlD.out; omega
  have hfin := hidF (show ∀ w2, w1.grownBy w2 (some w.heap.size) → (∃ L, Row w2 w.heap.size L ∧ L.take l.length = l) → Below w.heap.size w w2 ∧ ∃ g cap, Ending.returned (.tuple #[.slice (some ⟨w.heap.size, 0, none⟩) l.length D, .nilIface]) = .returned (.tuple #[.slice (some ⟨g, 0, none⟩) l.length cap, .nilIface]) ∧ w.heap.size ≤ g ∧ g < w2.heap.size ∧ ∀ j c, l[j]? = some c → w2.cell? ⟨g, j, none⟩ = some (.int .u8 (c.toNat : Int)) by
    rintro w2 hg ⟨L, hL, hLt⟩
    refine ⟨hbw.trans (below_grown hg (Nat.le_refl _) (by omega)), w.heap.size, D, rfl, Nat.le_refl _, by have := hg.size; omega, fun j c hj => ?_⟩
    apply hL.cell
    rw [← hLt] at hj
    have hjl : j < l.length := by
      have := (List.getElem?_eq_some_iff.1 hj).1
      rw [hLt] at this; exact this
    rw [List.getElem?_take_of_lt hjl] at hj
    exact hj)
  clear hr0 hb0 hz0 he0 hr1 he1 hrow hbel hc1 hc2 hlt1 hl hne hG hsl hlen0 hD hDD he hwm hbw
  go_enter Tryd.func44, Tryd.ntmps44
  go_wp2_with fail
  refine hlenc.out.mono ?_
  rintro e w2 ⟨rfl, rfl⟩
  go_wp2_with fail
  refine hdec.out.mono ?_
  rintro e w2 ⟨rfl, hg, hL⟩
  have HF := hidF (hfin.out w2 hg hL)
  clear hg hL hdec hfin hmk hconv
  go_wp2_with fail
  go_ret2
  exact HF.out

set_option maxHeartbeats 2000000 in
set_option maxRecDepth 100000 in
theorem decode_any (e0 : UInt8) (s : ByteArray) (b : List UInt8) (w : World) (he : e0 = 81 ∨ e0 = 113 ∨ e0 = 66 ∨ e0 = 98) (hw : wayL [e0] s.data.toList = some b) (hne : s.data.toList ≠ []) (hsz : s.size ≤ 100000) :
    Calls Tryd.prog 30 #[.int .u8 (e0.toNat : Int), .string s] w (CAt w b) := by
  by_cases hq : e0 = 81 ∨ e0 = 113
  · have hu : unqL s.data.toList = some b := by
      rw [← hw]; unfold wayL
      rcases hq with rfl | rfl <;> rfl
    have hc := hidF (qDecode_any s b w (by omega) hu)
    clear hw hu he hne
    rcases hq with rfl | rfl
    all_goals
      go_enter Tryd.func30, Tryd.ntmps30
      go_wp2_with fail
      refine hc.out.mono ?_
      rintro e w1 ⟨hb1, g, cap, rfl, h1, h2, h3⟩
      have HF := hidF (show CAt w b (.returned (.tuple #[.slice (some ⟨g, 0, none⟩) b.length cap, .nilIface])) w1 from ⟨hb1, g, cap, rfl, h1, h2, h3⟩)
      clear hb1 h1 h2 h3 hc
      go_wp2_with fail
      go_ret2
      exact HF.out
  · have hu : unbL s.data.toList = some b := by
      rw [← hw]; unfold wayL
      rcases he with rfl | rfl | rfl | rfl
      · exact absurd (Or.inl rfl) hq
      · exact absurd (Or.inr rfl) hq
      · rfl
      · rfl
    have hstd := hidF (stdEnc_any w)
    have hds := hidF (fun w1 (h : EncAt w1 w.heap.size) => decodeString_any w.heap.size s b w1 h hu hne hsz)
    have hb4 : e0 = 66 ∨ e0 = 98 := by
      rcases he with rfl | rfl | rfl | rfl
      · exact absurd (Or.inl rfl) hq
      · exact absurd (Or.inr rfl) hq
      · exact .inl rfl
      · exact .inr rfl
    clear hw hu he hne hq
    rcases hb4 with rfl | rfl
    all_goals
      go_enter Tryd.func30, Tryd.ntmps30
      go_wp2_with fail
      refine hstd.out.mono ?_
      rintro e w1 ⟨rfl, hb1, he1⟩
      have hcall := hidF (hds.out w1 he1)
      have Hb1 := hidF hb1
      clear hstd hds he1 hb1
      go_wp2_with fail
      refine hcall.out.mono ?_
      rintro e w2 ⟨hb2, g, cap, rfl, h1, h2, h3⟩
      have HF := hidF (show CAt w b (.returned (.tuple #[.slice (some ⟨g, 0, none⟩) b.length cap, .nilIface])) w2 from ⟨Hb1.out.trans (hb2.mono Hb1.out.size), g, cap, rfl, Nat.le_trans Hb1.out.size h1, h2, h3⟩)
      clear hb2 h1 h2 h3 hcall Hb1
      go_wp2_with fail
      go_ret2
      exact HF.out
end Go.Proofs.YtbpoecfbcmdeeaaDoor
