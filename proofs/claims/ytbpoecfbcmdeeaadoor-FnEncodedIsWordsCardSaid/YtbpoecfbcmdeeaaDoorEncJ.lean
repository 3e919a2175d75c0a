/- gomime's encodeWord and Encode, impl.Word: the walks. -/
import Derived.Test.YtbpoecfbcmdeeaaDoorEncI
namespace Go.Proofs.YtbpoecfbcmdeeaaDoor
open Go.RowKit

theorem bldD_grown {w w' : World} (h : Lib.BuilderAtF 64 5 w.heap.size w.heap.size (.pointer (some ⟨w.heap.size, 0, none⟩)) [] w') (hb : Below w.heap.size w w') : BldD w w.heap.size [] w' := by
  obtain ⟨hB, v, hbk, hown, hne⟩ := h
  have hc : w'.cell? ⟨w.heap.size, 1, none⟩ = some v := by rw [cell_of_row w' w.heap.size 1 _ _ _ hbk]; rfl
  refine ⟨.inr ⟨Nat.zero_le _, v, hbk, ⟨hown.1, ?_⟩, hne⟩, fun k hk => ⟨by omega, fun v2 hv2 e => ?_⟩, hb⟩
  · rcases hown.2 with h0 | ⟨g, cap, cur, fz, e, _, rest⟩
    · exact .inl h0
    · exact .inr ⟨g, cap, cur, fz, e, Nat.zero_le _, rest⟩
  · rw [hc] at hv2
    obtain rfl := Option.some.inj hv2
    have := (hown.lt k e).1
    omega

/-- The words that mean a text. -/
def WordsDone (x : UInt8) (enc : List UInt8 → List UInt8) (text : List UInt8) (w : World) (e : Ending) (w' : World) : Prop :=
  Below w.heap.size w w' ∧ ∃ cs, cs ≠ [] ∧ (∀ ch ∈ cs, WordOf x enc ch) ∧ cs.flatten = text ∧ (joinL x enc cs).length ≤ 100000 ∧ e = .returned (.string (mkB (joinL x enc cs)))
/-- Encode's answer. -/
def Encoded (b : Bool) (text : List UInt8) (w : World) (e : Ending) (w' : World) : Prop :=
  if plainL text = true then Below w.heap.size w w' ∧ e = .returned (.string (mkB text)) else if b then WordsDone 98 b64L text w e w' else WordsDone 113 qL text w e w'

set_option maxHeartbeats 2000000 in
set_option maxRecDepth 100000 in
theorem encodeWord_b (s : ByteArray) (w : World) (hT : Lib.Utf8Tabs 0 1 w) (hv : Lib.validD s.data.toList = true) (hne : s.data.toList ≠ []) (hs : s.size ≤ 4096) :
    Calls Tryd.prog 23 #[.int .u8 98, .string utfS, .string s] w (WordsDone 98 b64L s.data.toList w) := by
  have hgr := hidF (Tryd.Builder_Grow_fresh w.heap.size w.heap.size 48 (w.alloc (.cells #[.pointer none, .slice none 0 0] 64)) (Nat.le_refl _) (heap_alloc_new w _) (by simp) (by decide))
  have hop := hidF (fun W (h : BldD w w.heap.size [] W) => openWord_any w.heap.size 98 utfS [] W h.bld (by decide) (by decide))
  have hen := hidF (fun W (h : BldD w w.heap.size (openL 98 utfN) W) => bEncode_any w w.heap.size s W h hT hv hne hs)
  have Hsl := hidF (size_of_list s)
  clear hT hv hne
  go_enter Tryd.func23, Tryd.ntmps23
  go_wp2_with fail
  refine hgr.out.mono ?_
  rintro e w1 ⟨rfl, hB1, hb1⟩
  have HB1 := hidF (bldD_grown (Lib.BuilderAtF.of hB1) (((Below.refl _ _).alloc (Nat.le_refl _) _).trans hb1))
  clear hB1 hb1 hgr
  go_wp2_with fail
  refine (hop.out _ HB1.out).mono ?_
  rintro e w2 ⟨rfl, hI2, hS2⟩
  have HB2 := hidF (show BldD w w.heap.size (openL 98 utfN) w2 from HB1.out.step hI2 hS2)
  clear hI2 hS2 hop HB1
  go_wp2_with fail
  refine (hen.out _ HB2.out).mono ?_
  rintro e w3 ⟨rfl, out, hB3, hQ⟩
  have HB3 := hidF hB3
  have HQ := hidF hQ
  have hcl := hidF (closeWord_any w.heap.size out w3 hB3.bld (by obtain ⟨_, _, _, _, _, hl⟩ := hQ; have := Hsl.out; omega))
  clear hB3 hQ hen HB2
  go_wp2_with fail
  refine hcl.out.mono ?_
  rintro e w4 ⟨rfl, hI4, hS4⟩
  have hB4 := HB3.out.step hI4 hS4
  have hstr := hidF (Tryd.Builder_String_any_k w.heap.size w.heap.size (out ++ [63, 61]) w4 (hB4.bld.up hB4.apart) hB4.below.size)
  have HB4 := hidF hB4
  clear hI4 hS4 hB4 hcl HB3
  go_wp2_with fail
  refine hstr.out.mono ?_
  rintro e w5 ⟨rfl, _, hb5, _⟩
  have HF := hidF (show WordsDone 98 b64L s.data.toList w (.returned (.string ⟨(out ++ [63, 61]).toArray⟩)) w5 by
    obtain ⟨cs, h1, h2, h3, h4, h5⟩ := HQ.out
    refine ⟨HB4.out.below.trans (hb5.mono (Nat.le_refl _)), cs, h1, h2, h3, ?_, by rw [h4]; rfl⟩
    rw [← h4, List.length_append]
    have := Hsl.out
    simp only [List.length_cons, List.length_nil]
    omega)
  clear hstr hb5 HQ HB4
  go_wp2_with fail
  go_ret
  exact HF.out

set_option maxHeartbeats 2000000 in
set_option maxRecDepth 100000 in
theorem encode_b (s : ByteArray) (w : World) (hT : Lib.Utf8Tabs 0 1 w) (hv : Lib.validD s.data.toList = true) (hs : s.size ≤ 4096) :
    Calls Tryd.prog 14 #[.int .u8 98, .string utfS, .string s] w (Encoded true s.data.toList w) := by
  have hnd := hidF (needs_any s w)
  by_cases hp : plainL s.data.toList = true
  · rw [hp] at hnd
    have HP := hidF hp
    clear hp hT hv
    go_enter Tryd.func14, Tryd.ntmps14
    go_wp2_with fail
    refine hnd.out.mono ?_
    rintro e w1 ⟨rfl, hb1⟩
    clear hnd
    go_wp2_with fail
    go_ret
    unfold Encoded
    rw [if_pos HP.out]
    exact ⟨hb1, by rw [list_mkB]; rfl⟩
  · have hp2 : plainL s.data.toList = false := by simpa using hp
    rw [hp2] at hnd
    have hne : s.data.toList ≠ [] := fun e => hp (by rw [e]; rfl)
    have hen := hidF (fun w1 (hb : Below w.heap.size w w1) => encodeWord_b s w1 (utf8_below hT hb) hv hne hs)
    have HP := hidF hp
    clear hp hp2 hT hv hne
    go_enter Tryd.func14, Tryd.ntmps14
    go_wp2_with fail
    refine hnd.out.mono ?_
    rintro e w1 ⟨rfl, hb1⟩
    clear hnd
    go_wp2_with fail
    refine (hen.out _ hb1).mono ?_
    rintro e w2 hd
    obtain ⟨hb2, cs, h1, h2, h3, h4, rfl⟩ := hd
    have HF := hidF (show Encoded true s.data.toList w (.returned (.string (mkB (joinL 98 b64L cs)))) w2 by
      unfold Encoded
      rw [if_neg HP.out]
      exact ⟨hb1.trans (hb2.mono hb1.size), cs, h1, h2, h3, h4, rfl⟩)
    clear hen hb1 hb2 h1 h2 h3 h4 HP
    go_wp2_with fail
    go_ret
    exact HF.out

set_option maxHeartbeats 2000000 in
set_option maxRecDepth 100000 in
theorem encodeWord_q (s : ByteArray) (w : World) (hT : Lib.Utf8Tabs 0 1 w) (hv : Lib.validD s.data.toList = true) (hne : s.data.toList ≠ []) (hs : s.size ≤ 4096) :
    Calls Tryd.prog 23 #[.int .u8 113, .string utfS, .string s] w (WordsDone 113 qL s.data.toList w) := by
  have hgr := hidF (Tryd.Builder_Grow_fresh w.heap.size w.heap.size 48 (w.alloc (.cells #[.pointer none, .slice none 0 0] 64)) (Nat.le_refl _) (heap_alloc_new w _) (by simp) (by decide))
  have hop := hidF (fun W (h : BldD w w.heap.size [] W) => openWord_any w.heap.size 113 utfS [] W h.bld (by decide) (by decide))
  have hen := hidF (fun W (h : BldD w w.heap.size (openL 113 utfN) W) => qEncode_any w w.heap.size s W h hT hv hne hs)
  have Hsl := hidF (size_of_list s)
  clear hT hv hne
  go_enter Tryd.func23, Tryd.ntmps23
  go_wp2_with fail
  refine hgr.out.mono ?_
  rintro e w1 ⟨rfl, hB1, hb1⟩
  have HB1 := hidF (bldD_grown (Lib.BuilderAtF.of hB1) (((Below.refl _ _).alloc (Nat.le_refl _) _).trans hb1))
  clear hB1 hb1 hgr
  go_wp2_with fail
  refine (hop.out _ HB1.out).mono ?_
  rintro e w2 ⟨rfl, hI2, hS2⟩
  have HB2 := hidF (show BldD w w.heap.size (openL 113 utfN) w2 from HB1.out.step hI2 hS2)
  clear hI2 hS2 hop HB1
  go_wp2_with fail
  refine (hen.out _ HB2.out).mono ?_
  rintro e w3 ⟨rfl, out, hB3, hQ⟩
  have HB3 := hidF hB3
  have HQ := hidF hQ
  have hcl := hidF (closeWord_any w.heap.size out w3 hB3.bld (by obtain ⟨_, _, _, _, _, hl⟩ := hQ; have := Hsl.out; omega))
  clear hB3 hQ hen HB2
  go_wp2_with fail
  refine hcl.out.mono ?_
  rintro e w4 ⟨rfl, hI4, hS4⟩
  have hB4 := HB3.out.step hI4 hS4
  have hstr := hidF (Tryd.Builder_String_any_k w.heap.size w.heap.size (out ++ [63, 61]) w4 (hB4.bld.up hB4.apart) hB4.below.size)
  have HB4 := hidF hB4
  clear hI4 hS4 hB4 hcl HB3
  go_wp2_with fail
  refine hstr.out.mono ?_
  rintro e w5 ⟨rfl, _, hb5, _⟩
  have HF := hidF (show WordsDone 113 qL s.data.toList w (.returned (.string ⟨(out ++ [63, 61]).toArray⟩)) w5 by
    obtain ⟨cs, h1, h2, h3, h4, h5⟩ := HQ.out
    refine ⟨HB4.out.below.trans (hb5.mono (Nat.le_refl _)), cs, h1, h2, h3, ?_, by rw [h4]; rfl⟩
    rw [← h4, List.length_append]
    have := Hsl.out
    simp only [List.length_cons, List.length_nil]
    omega)
  clear hstr hb5 HQ HB4
  go_wp2_with fail
  go_ret
  exact HF.out

set_option maxHeartbeats 2000000 in
set_option maxRecDepth 100000 in
theorem encode_q (s : ByteArray) (w : World) (hT : Lib.Utf8Tabs 0 1 w) (hv : Lib.validD s.data.toList = true) (hs : s.size ≤ 4096) :
    Calls Tryd.prog 14 #[.int .u8 113, .string utfS, .string s] w (Encoded false s.data.toList w) := by
  have hnd := hidF (needs_any s w)
  by_cases hp : plainL s.data.toList = true
  · rw [hp] at hnd
    have HP := hidF hp
    clear hp hT hv
    go_enter Tryd.func14, Tryd.ntmps14
    go_wp2_with fail
    refine hnd.out.mono ?_
    rintro e w1 ⟨rfl, hb1⟩
    clear hnd
    go_wp2_with fail
    go_ret
    unfold Encoded
    rw [if_pos HP.out]
    exact ⟨hb1, by rw [list_mkB]; rfl⟩
  · have hp2 : plainL s.data.toList = false := by simpa using hp
    rw [hp2] at hnd
    have hne : s.data.toList ≠ [] := fun e => hp (by rw [e]; rfl)
    have hen := hidF (fun w1 (hb : Below w.heap.size w w1) => encodeWord_q s w1 (utf8_below hT hb) hv hne hs)
    have HP := hidF hp
    clear hp hp2 hT hv hne
    go_enter Tryd.func14, Tryd.ntmps14
    go_wp2_with fail
    refine hnd.out.mono ?_
    rintro e w1 ⟨rfl, hb1⟩
    clear hnd
    go_wp2_with fail
    refine (hen.out _ hb1).mono ?_
    rintro e w2 hd
    obtain ⟨hb2, cs, h1, h2, h3, h4, rfl⟩ := hd
    have HF := hidF (show Encoded false s.data.toList w (.returned (.string (mkB (joinL 113 qL cs)))) w2 by
      unfold Encoded
      rw [if_neg HP.out]
      exact ⟨hb1.trans (hb2.mono hb1.size), cs, h1, h2, h3, h4, rfl⟩)
    clear hen hb1 hb2 h1 h2 h3 h4 HP
    go_wp2_with fail
    go_ret
    exact HF.out

theorem implWord_any (b : Bool) (s : ByteArray) (w : World) (hT : Lib.Utf8Tabs 0 1 w) (hv : Lib.validD s.data.toList = true) (hs : s.size ≤ 4096) :
    Calls Tryd.prog 7 #[.bool b, .string utfS, .string s] w (Encoded b s.data.toList w) := by
  cases b
  · have hen := hidF (encode_q s w hT hv hs)
    clear hT hv
    go_enter Tryd.func7, Tryd.ntmps7
    go_wp2_with fail
    refine hen.out.mono ?_
    rintro e w1 he
    have HE := hidF he
    obtain ⟨r, rfl⟩ : ∃ r, e = .returned (.string r) := by
      unfold Encoded at he
      split at he
      · exact ⟨_, he.2⟩
      · obtain ⟨_, cs, _, _, _, _, h⟩ := he
        exact ⟨_, h⟩
    clear he hen
    go_wp2_with fail
    go_ret
    exact HE.out
  · have hen := hidF (encode_b s w hT hv hs)
    clear hT hv
    go_enter Tryd.func7, Tryd.ntmps7
    go_wp2_with fail
    refine hen.out.mono ?_
    rintro e w1 he
    have HE := hidF he
    obtain ⟨r, rfl⟩ : ∃ r, e = .returned (.string r) := by
      unfold Encoded at he
      split at he
      · exact ⟨_, he.2⟩
      · obtain ⟨_, cs, _, _, _, _, h⟩ := he
        exact ⟨_, h⟩
    clear he hen
    go_wp2_with fail
    go_ret
    exact HE.out
end Go.Proofs.YtbpoecfbcmdeeaaDoor
