/- gomime's bEncode: the walk. -/
import Derived.Test.YtbpoecfbcmdeeaaDoorEncQW
import Derived.Test.YtbpoecfbcmdeeaaDoorEncG
import Derived.Test.YtbpoecfbcmdeeaaDoorEncQE
namespace Go.Proofs.YtbpoecfbcmdeeaaDoor
open Go.RowKit

/-- Where bEncode stands: C are the words ended so far, the signs from place last to place i wait. -/
structure EncBt (text out : List UInt8) (last i : Nat) (C : List (List UInt8)) : Prop where
  txt : text.take last = C.flatten
  words : ∀ ch ∈ C, WordOf 98 b64L ch
  li : last ≤ i
  cur : Lib.validD ((text.drop last).take (i - last)) = true
  rest : Lib.validD (text.drop i) = true
  outp : out = doneL 98 b64L C ++ openL 98 utfN
  len : out.length ≤ 10 + 20 * last

theorem encBt_start (text : List UInt8) (hv : Lib.validD text = true) : EncBt text (openL 98 utfN) 0 0 [] :=
  ⟨by simp, (fun _ h => by cases h), Nat.le_refl _, by simp; rfl, by simpa using hv, by simp [doneL], by simp [openL, utfN]⟩

theorem b_word {text out : List UInt8} {last i : Nat} {C : List (List UInt8)} (h : EncBt text out last i C) (hi : i ≤ text.length) (hc : last < i) (hl : i - last ≤ 45) : ∀ ch ∈ C ++ [(text.drop last).take (i - last)], WordOf 98 b64L ch := by
  intro ch hch
  rcases List.mem_append.1 hch with hch | hch
  · exact h.words ch hch
  · obtain rfl := List.mem_singleton.1 hch
    refine bWord _ ?_ h.cur ?_
    · intro e
      have := congrArg List.length e
      rw [List.length_take, List.length_drop] at this
      simp at this; omega
    · rw [List.length_take]; omega

theorem b_done {text out : List UInt8} {last : Nat} {C : List (List UInt8)} (h : EncBt text out last text.length C) (hc : last < text.length) (hl : text.length - last ≤ 45) : QDone 98 b64L text (out ++ b64L (text.drop last)) := by
  have hlen : (text.drop last).take (text.length - last) = text.drop last := List.take_of_length_le (by rw [List.length_drop]; omega)
  have hw := b_word h (Nat.le_refl _) hc hl
  rw [hlen] at hw
  refine ⟨C ++ [text.drop last], by simp, hw, ?_, ?_, ?_⟩
  · rw [List.flatten_append, ← h.txt]; simp
  · rw [join_snoc, word_open, h.outp]; simp
  · rw [List.length_append, b64L_len, List.length_drop]; have := h.len; omega

/-- A rune more waits. -/
theorem b_more {text out : List UInt8} {last i n : Nat} {C : List (List UInt8)} (h : EncBt text out last i C) (hvr : Lib.validD ((text.drop i).take n) = true) (hvd : Lib.validD (text.drop (i + n)) = true) : EncBt text out last (i + n) C := by
  have hli := h.li
  refine ⟨h.txt, h.words, by omega, ?_, hvd, h.outp, h.len⟩
  have e : (text.drop last).take (i + n - last) = (text.drop last).take (i - last) ++ (text.drop i).take n := by
    rw [show i + n - last = (i - last) + n by omega, List.take_add, List.drop_drop, show last + (i - last) = i by omega]
  rw [e]
  exact validD_app _ _ _ (Nat.le_refl _) h.cur hvr

/-- A word is ended, another begun. -/
theorem b_split {text out : List UInt8} {last i n : Nat} {C : List (List UInt8)} (h : EncBt text out last i C) (hi : i ≤ text.length) (hc : last < i) (hl : i - last ≤ 45) (hvr : Lib.validD ((text.drop i).take n) = true) (hvd : Lib.validD (text.drop (i + n)) = true) :
    EncBt text (out ++ b64L ((text.drop last).take (i - last)) ++ ([63, 61, 32] ++ openL 98 utfN)) i (i + n) (C ++ [(text.drop last).take (i - last)]) := by
  refine ⟨?_, b_word h hi hc hl, by omega, by rw [Nat.add_sub_cancel_left]; exact hvr, hvd, ?_, ?_⟩
  · rw [List.flatten_append, ← h.txt]
    have : text.take i = text.take (last + (i - last)) := by rw [show last + (i - last) = i by omega]
    rw [this, List.take_add]; simp
  · rw [h.outp]
    simp [doneL, word_open]
  · have hk : ((text.drop last).take (i - last)).length = i - last := by rw [List.length_take, List.length_drop]; omega
    have h1 := h.len
    have h2 : (openL 98 utfN).length = 10 := by simp [openL, utfN]
    rw [List.length_append, List.length_append, List.length_append, b64L_len, hk, h2]
    simp only [List.length_cons, List.length_nil]
    omega
end Go.Proofs.YtbpoecfbcmdeeaaDoor

namespace Go.Proofs.YtbpoecfbcmdeeaaDoor
open Go.RowKit

theorem encAft_ready_len {w0 : World} {wb eb b : Nat} {A : List UInt8} {w : World} (h : EncReady w0 wb eb b A w) : w0.heap.size ≤ w.heap.size ∧ eb < w.heap.size ∧ IsB wb A w := by
  obtain ⟨y0, y1, y2, out, hout, hst⟩ := h
  exact ⟨hst.bld.below.size, hst.obj.lt, hst.bld.bld⟩
theorem EncReady.under {w0 : World} {wb eb b : Nat} {A : List UInt8} {w w' : World} (h : EncReady w0 wb eb b A w) (hb : Below w.heap.size w w') : EncReady w0 wb eb b A w' := by
  obtain ⟨y0, y1, y2, out, hout, hst⟩ := h
  exact ⟨y0, y1, y2, out, hout, hst.under hb⟩
theorem EncReady.bld {w0 : World} {wb eb b : Nat} {A : List UInt8} {w : World} (h : EncReady w0 wb eb b A w) : BldD w0 wb A w := by
  obtain ⟨y0, y1, y2, out, hout, hst⟩ := h
  exact hst.bld
theorem EncReady.step {w0 : World} {wb eb b : Nat} {A A' : List UInt8} {w w' : World} (h : EncReady w0 wb eb b A w) (hb : IsB wb A' w') (hs : BStep wb w w') : EncReady w0 wb eb b A' w' := by
  obtain ⟨y0, y1, y2, out, hout, hst⟩ := h
  exact ⟨y0, y1, y2, out, hout, hst.step hb hs⟩

/-- []byte(t): its capacity and the world behind it. -/
def convCap (t : ByteArray) (w : World) : Nat := grownCap w t.size 0 5
def convW (t : ByteArray) (w : World) : World := w.drew.alloc (.cells (bytesRow t (grownCap w t.size 0 5)) 5 ((bytesRow t (grownCap w t.size 0 5)).size, (bytesRow t (grownCap w t.size 0 5)).size + 1))
theorem conv_run (t : ByteArray) (w : World) : (convert 9 39 (.string t)).run Tryd.prog w = .ok (.slice (some ⟨w.heap.size, 0, none⟩) t.size (convCap t w)) (convW t w) :=
  run_bytes_of_string (P := Tryd.prog) w 9 39 5 t Tryd.underlying9 Tryd.underlying39 Tryd.underlying5
theorem conv_facts (t : ByteArray) (w : World) : t.size ≤ convCap t w ∧ Row (convW t w) w.heap.size t.data.toList ∧ Below w.heap.size w (convW t w) := by
  refine ⟨grownCap_ge w t.size 0 _, ?_, ?_⟩
  · intro j c hj
    obtain ⟨hj1, he⟩ := list_get t j c hj
    have hat := bytesRow_at t (grownCap w t.size 0 5) j hj1
    have hlt : j < (bytesRow t (grownCap w t.size 0 5)).size := (Array.getElem?_eq_some_iff.1 hat).1
    unfold convW
    generalize bytesRow t (grownCap w t.size 0 5) = C at hat hlt ⊢
    have h1 := World.cell?_alloc_mark w.drew C 5 (C.size, C.size + 1) j
    have h2 := World.frozen?_alloc_mark w.drew C 5 C.size (C.size + 1) j
    refine ⟨(h1.trans hat).trans (by rw [he]), h2.trans ?_⟩
    simp; omega
  · exact ((Below.refl _ w).drew).alloc (Nat.le_refl _) _
/-- A part of the text as bytes, and its Write. -/
theorem part_at (w0 : World) (wb eb b : Nat) (A : List UInt8) (t : ByteArray) (w : World) (h : EncReady w0 wb eb b A w) (hA : A.length ≤ 100000) (ht : t.size ≤ 45) :
    Calls Tryd.prog 109 #[.pointer (some ⟨eb, 0, none⟩), .slice (some ⟨w.heap.size, 0, none⟩) t.size (convCap t w)] (convW t w) fun e w' => e = .returned (.tuple #[.int .i64 t.size, .nilIface]) ∧ EncAft w0 wb eb b A t.data.toList w' := by
  obtain ⟨hc1, hrow, hbel⟩ := conv_facts t w
  obtain ⟨_, hlt, hB⟩ := encAft_ready_len h
  have hsl := size_of_list t
  have := Write_ready w0 wb eb b w.heap.size (convCap t w) A t.data.toList (convW t w) (h.under hbel) hA (by omega) (by omega) (fun j x hj => by rw [Nat.zero_add]; exact hrow.cell hj) (by omega) (apart_new hB hbel (Nat.le_refl _))
  rw [← hsl] at this
  exact this

/-- The encoder as it is made. -/
theorem ready_new {w0 w w1 w2 : World} {wb : Nat} {A : List UInt8} (hB : BldD w0 wb A w) (h1 : Below w.heap.size w w1) (he : EncAt w1 w.heap.size) (h2 : Below w1.heap.size w1 w2) (ho : Ob w2 w1.heap.size 117 (encS w.heap.size wb (.int .u8 0) (.int .u8 0) (.int .u8 0) 0 outZ)) :
    EncReady w0 wb w1.heap.size w.heap.size A w2 := by
  have hlt := he.lt
  have hs := hB.below.size
  refine ⟨_, _, _, _, List.length_replicate .., ⟨(hB.under h1).under h2, ho, apart_new (hB.under h1).bld h2 (Nat.le_refl _), ?_, (h2.block _ hlt).trans he, by have := h1.size; omega, by omega⟩⟩
  exact (BStep.of_below h2 (hB.under h1).bld.lt).kept _ hlt (apart_new hB.bld h1 (Nat.le_refl _)) |>.2

theorem method_ew (a : Addr) (w : World) : (method 277 113 (.pointer (some a)) "Write").run Tryd.prog w = .ok (109, .pointer (some a)) w := by kernel_rfl
theorem method_ec (a : Addr) (w : World) : (method 277 113 (.pointer (some a)) "Close").run Tryd.prog w = .ok (108, .pointer (some a)) w := by kernel_rfl
theorem nil_ew (a : Addr) (w : World) : (nilAhead 277 113 (.pointer (some a)) "Write").run Tryd.prog w = .ok (some false) w := by kernel_rfl
theorem encBt_all (text : List UInt8) (hv : Lib.validD text = true) : EncBt text (openL 98 utfN) 0 text.length [] := by
  have h := encBt_start text hv
  exact ⟨h.txt, h.words, Nat.zero_le _, by simpa using hv, by rw [List.drop_length]; rfl, h.outp, h.len⟩

set_option maxHeartbeats 4000000 in
set_option maxRecDepth 100000 in
theorem bEncode_short (w0 : World) (wb : Nat) (s : ByteArray) (w : World) (hB : BldD w0 wb (openL 98 utfN) w) (hv : Lib.validD s.data.toList = true) (hne : s.data.toList ≠ []) (hs : s.size ≤ 45) :
    Calls Tryd.prog 38 #[.int .u8 98, .pointer (some ⟨wb, 0, none⟩), .string utfS, .string s] w fun e w' => e = .returned (.tuple #[]) ∧ ∃ out, BldD w0 wb out w' ∧ QDone 98 b64L s.data.toList out := by
  have hstd := hidF (fun w => stdEnc_any w)
  have hnew := hidF (fun b w => NewEncoder_any b wb w)
  have hu := hidF (fun w => isUTF8_any w)
  have HB := hidF hB
  have hsl := size_of_list s
  have hdone := hidF (b_done (encBt_all _ hv) (List.length_pos_iff.2 hne) (by omega))
  clear hB hv hne hsl
  go_enter Tryd.func38, Tryd.ntmps38
  go_wp2_with fail
  refine (hstd.out _).mono ?_
  rintro e w1 ⟨rfl, hb1, he1⟩
  have Hb1 := hidF hb1
  have He1 := hidF he1
  clear hb1 he1
  go_wp2_with fail
  refine (hnew.out _ _).mono ?_
  rintro e w2 ⟨rfl, hb2, hz2, ho2⟩
  have HR := hidF (ready_new HB.out Hb1.out He1.out hb2 ho2)
  clear hb2 hz2 ho2 hnew
  go_wp2_with fail
  refine (hu.out _).mono ?_
  rintro e w3 ⟨rfl, rfl⟩
  go_wp2_with fail
  refine (hstd.out _).mono ?_
  rintro e w3 ⟨rfl, hb3, he3⟩
  have HR3 := hidF (HR.out.under hb3)
  have hlen := hidF (EncodedLen_any _ s.size w3 (by omega) he3)
  obtain ⟨m, hm⟩ : ∃ m, m = (s.size + 2) / 3 * 4 := ⟨_, rfl⟩
  have hm63 : (m : Int) ≤ 63 := by omega
  rw [← hm] at hlen
  clear hb3 he3 HR hm
  go_wp2_with fail
  refine hlen.out.mono ?_
  rintro e w4 ⟨rfl, rfl⟩
  clear hlen hstd hu
  have Hwr := hidF (part_at w0 wb _ _ _ s w3 HR3.out (by simp [openL, utfN]) hs)
  have hconv := conv_run s
  clear HB Hb1 He1
  have hme := fun w => method_ew ⟨w1.heap.size, 0, none⟩ w
  have hmc := fun w => method_ec ⟨w1.heap.size, 0, none⟩ w
  go_wp2_with fail
  refine Hwr.out.mono ?_
  rintro e w6 ⟨rfl, haf⟩
  have hcl := hidF (Close_aft w0 wb _ _ _ _ w6 haf (by simp [openL, utfN]) (by rw [← size_of_list]; exact hs))
  clear haf Hwr hconv
  go_wp2_with fail
  refine hcl.out.mono ?_
  rintro e w7 ⟨rfl, hrd⟩
  have HF := hidF (show ∃ out, BldD w0 wb out w7 ∧ QDone 98 b64L s.data.toList out from ⟨_, hrd.bld, hdone.out⟩)
  clear hrd hcl hdone
  go_wp2_with fail
  refine bodyPost_ret (results_none rfl _ _ _) rfl ?_
  exact ⟨rfl, HF.out⟩

set_option maxHeartbeats 8000000 in
set_option maxRecDepth 100000 in
theorem bEncode_long (w0 : World) (wb : Nat) (s : ByteArray) (w : World) (hB : BldD w0 wb (openL 98 utfN) w) (hT : Lib.Utf8Tabs 0 1 w0) (hv : Lib.validD s.data.toList = true) (hs0 : 45 < s.size) (hs : s.size ≤ 4096) :
    Calls Tryd.prog 38 #[.int .u8 98, .pointer (some ⟨wb, 0, none⟩), .string utfS, .string s] w fun e w' => e = .returned (.tuple #[]) ∧ ∃ out, BldD w0 wb out w' ∧ QDone 98 b64L s.data.toList out := by
  have hstd := hidF (fun w => stdEnc_any w)
  have hnew := hidF (fun b w => NewEncoder_any b wb w)
  have hu := hidF (fun w => isUTF8_any w)
  have HB := hidF hB
  have Hsl := hidF (size_of_list s)
  have h0 := hidF (encBt_start s.data.toList hv)
  clear hB hv
  go_enter Tryd.func38, Tryd.ntmps38
  go_wp2_with fail
  refine (hstd.out _).mono ?_
  rintro e w1 ⟨rfl, hb1, he1⟩
  have Hb1 := hidF hb1
  have He1 := hidF he1
  clear hb1 he1
  go_wp2_with fail
  refine (hnew.out _ _).mono ?_
  rintro e w2 ⟨rfl, hb2, hz2, ho2⟩
  have HR := hidF (ready_new HB.out Hb1.out He1.out hb2 ho2)
  clear hb2 hz2 ho2 hnew
  go_wp2_with fail
  refine (hu.out _).mono ?_
  rintro e w3 ⟨rfl, rfl⟩
  go_wp2_with fail
  refine (hstd.out _).mono ?_
  rintro e w3 ⟨rfl, hb3, he3⟩
  have HR3 := hidF (HR.out.under hb3)
  have hlen := hidF (EncodedLen_any _ s.size w3 (by omega) he3)
  obtain ⟨m, hm⟩ : ∃ m, m = (s.size + 2) / 3 * 4 := ⟨_, rfl⟩
  have hm63 : ¬ (m : Int) ≤ 63 := by omega
  rw [← hm] at hlen
  clear hb3 he3 HR hm
  go_wp2_with fail
  refine hlen.out.mono ?_
  rintro e w4 ⟨rfl, rfl⟩
  clear hlen hstd hu
  obtain ⟨eb, heb⟩ : ∃ eb, eb = w1.heap.size := ⟨_, rfl⟩
  obtain ⟨b, hb⟩ : ∃ b, b = w.heap.size := ⟨_, rfl⟩
  rw [← heb, ← hb] at HR3
  rw [← heb, ← hb]
  clear HB Hb1 He1 heb hb
  have hme := fun w => method_ew ⟨eb, 0, none⟩ w
  have hmc := fun w => method_ec ⟨eb, 0, none⟩ w
  go_wp2_with fail
  go_loopw [9, 10, 12] (fun cv lv iv wr => ∃ i cl last : Nat, i ≤ s.size ∧ last ≤ i ∧ cv = .int .i64 cl ∧ lv = .int .i64 last ∧ iv = .int .i64 i ∧ cl ≤ 45 ∧ Hid (cl + last = i ∧ (i = 0 ∨ 1 ≤ cl)) ∧ Hid (∃ out C, EncBt s.data.toList out last i C ∧ EncReady w0 wb eb b out wr)) (fun _ _ iv _ => s.size - (intOf iv).toNat)
  case atStart => exact ⟨0, 0, 0, Nat.zero_le _, Nat.zero_le _, rfl, rfl, rfl, Nat.zero_le _, hidF ⟨rfl, .inl rfl⟩, hidF ⟨_, [], h0.out, HR3.out⟩⟩
  case round =>
    obtain ⟨i, cl, last, hi, hli, rfl, rfl, rfl, hcl, hsum, hst⟩ := hrel
    obtain ⟨out, C, hE, hrd⟩ := hst.out
    have hbd := hrd.bld
    have hoL := hE.len
    have hoA : out.length ≤ 100000 := by omega
    have HE := hidF hE
    have HRd := hidF hrd
    have Hst := hidF hst
    have HoA := hidF hoA
    have hlle : (last : Int) ≤ (i : Int) := by omega
    have hils : (i : Int) ≤ (s.size : Int) := by omega
    have hconv := fun t w => conv_run t w
    have hna := fun w => nil_ew ⟨eb, 0, none⟩ w
    have hmf : ∀ (fn : Fn) (first cap : Array Value) (w : World), (Instr.makeFunc fn first cap).run Tryd.prog w = .ok (.func fn first cap) w := fun _ _ _ _ => rfl
    by_cases hlt : i < s.size
    · have hz : (i : Int) < (s.size : Int) := by omega
      have hd := drop_cons s i hlt
      have hne2 : s.data.toList.drop i ≠ [] := by rw [hd]; simp
      have ht4 := hidF (rune_next _ hne2 hE.rest _ rfl)
      have hx := from_mkB s i
      have hTr := hidF (utf8_below hT hbd.below)
      obtain ⟨n, hn⟩ : ∃ n, n = (Lib.decodeL (s.data.toList.drop i)).2 := ⟨_, rfl⟩
      obtain ⟨rr, hrr⟩ : ∃ rr, rr = (Lib.decodeL (s.data.toList.drop i)).1 := ⟨_, rfl⟩
      have ht := ht4.out
      rw [← hn] at ht
      obtain ⟨hn1, hn4, hn3, hvr, hvd, _⟩ := ht
      rw [List.length_drop, ← Hsl.out] at hn3
      rw [List.drop_drop] at hvd
      have hin : i + n ≤ s.size := by omega
      have hdec := hidF (show Calls Tryd.prog 59 #[.string (mkB (s.data.toList.drop i))] wr fun e w' => e = .returned (.tuple #[.int .i32 (rr : Int), .int .i64 (n : Int)]) ∧ Below wr.heap.size wr w' from
        (Tryd.utf8_DecodeRuneInString (mkB (s.data.toList.drop i)) wr hTr.out).mono (by
          rintro e w' ⟨rfl, hb'⟩
          exact ⟨by rw [decodeGo_list _ hne2, ← hn, ← hrr], hb'⟩))
      have Hvr := hidF hvr
      have Hvd := hidF hvd
      clear hE hrd hbd hoL hoA hst hd hne2 ht4 hTr hn hrr hvr hvd
      go_wp2_with fail
      refine hdec.out.mono ?_
      rintro e wd ⟨rfl, hbd⟩
      have HRd2 := hidF (HRd.out.under hbd)
      clear hbd hdec
      by_cases hfit : cl + n ≤ 45
      · have y1 : (cl : Int) + (n : Int) ≤ 45 := by omega
        have hrel2 := hidF (show ∃ i2 cl2 last2 : Nat, i2 ≤ s.size ∧ last2 ≤ i2 ∧ Value.int IntKind.i64 ((cl + n : Nat) : Int) = .int .i64 cl2 ∧ Value.int IntKind.i64 (last : Int) = .int .i64 last2 ∧ Value.int IntKind.i64 ((i + n : Nat) : Int) = .int .i64 i2 ∧ cl2 ≤ 45 ∧ Hid (cl2 + last2 = i2 ∧ (i2 = 0 ∨ 1 ≤ cl2)) ∧ Hid (∃ out C, EncBt s.data.toList out last2 i2 C ∧ EncReady w0 wb eb b out wd) from
          ⟨i + n, cl + n, last, hin, by omega, rfl, rfl, rfl, hfit, hidF ⟨by have := hsum.out.1; omega, .inr (by omega)⟩, hidF ⟨out, C, b_more HE.out Hvr.out Hvd.out, HRd2.out⟩⟩)
        clear hfit
        go_wp2_with fail
        go_roundw
        case rel => exact hrel2.out
        case measure => simp [intOf]; omega
      · have y1 : ¬ (cl : Int) + (n : Int) ≤ 45 := by omega
        have hlc : last < i := by have := hsum.out.1; omega
        have hl45 : i - last ≤ 45 := by have := hsum.out.1; omega
        obtain ⟨tB, htB⟩ : ∃ x, x = s.extract last i := ⟨_, rfl⟩
        have x1 := htB.symm
        have htl : tB.data.toList = (s.data.toList.drop last).take (i - last) := by rw [htB, extract_mkB, mkB_list]
        have hts : tB.size ≤ 45 := by rw [size_of_list, htl, List.length_take]; omega
        have Hpc := hidF (fun W (HW : EncReady w0 wb eb b out W) => part_at w0 wb eb b out tB W HW HoA.out hts)
        have Htl := hidF htl
        have Hts := hidF hts
        have Hli := hidF (And.intro hlc hl45)
        have Hpd := hidF (Hpc.out wd.drew (HRd2.out.under ⟨rfl, rfl, rfl, Nat.le_refl _, fun _ _ => rfl⟩))
        clear htB htl hts hfit hlc hl45
        go_wp2_with fail
        go_region_with ((go_at_call 109; refine Hpd.out.mono ?_; rintro e w2 ⟨rfl, haf⟩; have Haf := hidF haf; clear haf))
        all_goals
          clear Hpd Hpc
          have hcl := hidF (Close_aft w0 wb _ _ _ _ w2 Haf.out HoA.out (by rw [← size_of_list]; exact Hts.out))
          clear Haf
          go_wp2_with fail
          refine hcl.out.mono ?_
          rintro e w4 ⟨rfl, hrd4⟩
          have HR4 := hidF hrd4
          have hsp := hidF (splitWord_any wb 98 utfS _ w4 hrd4.bld.bld (by
            have h1 := HoA.out
            have h2 := Hts.out
            rw [size_of_list] at h2
            rw [List.length_append, b64L_len]; omega) (by decide))
          clear hrd4 hcl
          go_wp2_with fail
          refine hsp.out.mono ?_
          rintro e w5 ⟨rfl, h5, S5⟩
          have hrel2 := hidF (show ∃ i2 cl2 last2 : Nat, i2 ≤ s.size ∧ last2 ≤ i2 ∧ Value.int IntKind.i64 ((n : Nat) : Int) = .int .i64 cl2 ∧ Value.int IntKind.i64 (i : Int) = .int .i64 last2 ∧ Value.int IntKind.i64 ((i + n : Nat) : Int) = .int .i64 i2 ∧ cl2 ≤ 45 ∧ Hid (cl2 + last2 = i2 ∧ (i2 = 0 ∨ 1 ≤ cl2)) ∧ Hid (∃ out C, EncBt s.data.toList out last2 i2 C ∧ EncReady w0 wb eb b out w5) from
            ⟨i + n, n, i, hin, by omega, rfl, rfl, rfl, by omega, hidF ⟨by omega, .inr hn1⟩, hidF ⟨_, _, b_split HE.out (by rw [← Hsl.out]; omega) Hli.out.1 Hli.out.2 Hvr.out Hvd.out, by
              have := HR4.out.step h5 S5
              rw [Htl.out] at this
              exact this⟩⟩)
          clear h5 S5 hsp
          go_wp2_with fail
          go_roundw
          case rel => exact hrel2.out
          case measure => clear hrel2; simp [intOf]; omega
    · have hz : ¬ (i : Int) < (s.size : Int) := by omega
      have hlss : (last : Int) ≤ (s.size : Int) := by omega
      have his : i = s.size := by omega
      have hlc : last < s.data.toList.length := by obtain ⟨a1, a2⟩ := hsum.out; have := Hsl.out; omega
      have hl45 : s.data.toList.length - last ≤ 45 := by have := hsum.out.1; have := Hsl.out; omega
      obtain ⟨tB, htB⟩ : ∃ x, x = mkB (s.data.toList.drop last) := ⟨_, rfl⟩
      have htl : tB.data.toList = s.data.toList.drop last := by rw [htB, mkB_list]
      have x1 : s.extract last s.size = tB := by rw [from_mkB s last, htB]
      have hts : tB.size ≤ 45 := by rw [size_of_list, htl, List.length_drop]; omega
      have hdone := hidF (show QDone 98 b64L s.data.toList (out ++ b64L tB.data.toList) by
        have h1 := HE.out
        rw [his, Hsl.out] at h1
        rw [htl]
        exact b_done h1 hlc hl45)
      have Hpd := hidF (part_at w0 wb eb b out tB wr.drew (HRd.out.under ⟨rfl, rfl, rfl, Nat.le_refl _, fun _ _ => rfl⟩) HoA.out hts)
      have Hts := hidF hts
      clear hE hrd hbd hoL hoA hst htB htl hts hlc hl45 his
      go_wp2_with fail
      go_region_with ((go_at_call 109; refine Hpd.out.mono ?_; rintro e w2 ⟨rfl, haf⟩; have Haf := hidF haf; clear haf))
      all_goals
        clear Hpd
        have hcl := hidF (Close_aft w0 wb _ _ _ _ w2 Haf.out HoA.out (by rw [← size_of_list]; exact Hts.out))
        clear Haf
        go_wp2_with fail
        refine hcl.out.mono ?_
        rintro e w4 ⟨rfl, hrd4⟩
        have HF := hidF (show ∃ out, BldD w0 wb out w4 ∧ QDone 98 b64L s.data.toList out from ⟨_, hrd4.bld, hdone.out⟩)
        clear hrd4 hcl hdone
        go_wp2_with fail
        go_end0
        exact ⟨rfl, HF.out⟩

theorem bEncode_any (w0 : World) (wb : Nat) (s : ByteArray) (w : World) (hB : BldD w0 wb (openL 98 utfN) w) (hT : Lib.Utf8Tabs 0 1 w0) (hv : Lib.validD s.data.toList = true) (hne : s.data.toList ≠ []) (hs : s.size ≤ 4096) :
    Calls Tryd.prog 38 #[.int .u8 98, .pointer (some ⟨wb, 0, none⟩), .string utfS, .string s] w fun e w' => e = .returned (.tuple #[]) ∧ ∃ out, BldD w0 wb out w' ∧ QDone 98 b64L s.data.toList out := by
  by_cases h : s.size ≤ 45
  · exact bEncode_short w0 wb s w hB hv hne h
  · exact bEncode_long w0 wb s w hB hT hv (by omega) hs
end Go.Proofs.YtbpoecfbcmdeeaaDoor
