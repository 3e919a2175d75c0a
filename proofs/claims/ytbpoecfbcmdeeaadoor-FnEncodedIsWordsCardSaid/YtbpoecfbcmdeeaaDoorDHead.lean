/- gomime's DecodeHeader and impl.DecodedHeader at texts that the reference decodes: the walks. -/
import Derived.Test.YtbpoecfbcmdeeaaDoorDHeadL
import Derived.Test.YtbpoecfbcmdeeaaDoorNonWs
import Derived.Test.YtbpoecfbcmdeeaaDoorWDec
namespace Go.Proofs.YtbpoecfbcmdeeaaDoor
open Go.RowKit

def eqS : ByteArray := ⟨#[61, 63]⟩
def endS : ByteArray := ⟨#[63, 61]⟩

/-- Where DecodeHeader stands: h is left, out is written, r is to come in all. -/
def AtD (h out r : List UInt8) (bt : Bool) : Prop :=
  (bt = true ∧ ∃ r2, specL h [] true = some r2 ∧ r = out ++ r2) ∨
  (bt = false ∧ ∃ cs e tx b t rest r2, h = (61 :: 63 :: (cs ++ 63 :: e :: 63 :: (tx ++ [63, 61]))) ++ rest ∧ Coded (61 :: 63 :: (cs ++ 63 :: e :: 63 :: (tx ++ [63, 61]))) cs e tx b t ∧ specL rest [] true = some r2 ∧ r = out ++ (t ++ r2))

/-- What comes next. -/
structure NextD (h out r : List UInt8) (bt : Bool) (k : Nat) (cs : List UInt8) (e : UInt8) (tx b t rest r2 : List UInt8) : Prop where
  at_ : WAt h k cs e tx rest
  index : indexO eq2 h = some k
  word : Coded (61 :: 63 :: (cs ++ 63 :: e :: 63 :: (tx ++ [63, 61]))) cs e tx b t
  go : specL rest [] true = some r2
  first : bt = false → k = 0
  out : r = (out ++ (if (h.take k).all isSp then [] else h.take k)) ++ (t ++ r2)

theorem atD_next (h out r : List UInt8) (bt : Bool) (H : AtD h out r bt) : (bt = true ∧ indexO eq2 h = none ∧ r = out ++ h) ∨ ∃ k cs e tx b t rest r2, NextD h out r bt k cs e tx b t rest r2 := by
  rcases H with ⟨rfl, r2, hs, hr⟩ | ⟨rfl, cs, e, tx, b, t, rest, r2, hh, hc, hg, hr⟩
  · cases hi : indexO eq2 h with
    | none =>
      have := specL_none _ h [] true r2 (Nat.le_refl _) hi hs (fun h => absurd rfl h)
      exact .inl ⟨rfl, rfl, by rw [hr, this]; rfl⟩
    | some k =>
      obtain ⟨cs, e, tx, b, t, rest, r3, F⟩ := specL_some _ h [] true r2 k (Nat.le_refl _) hi hs (fun _ hc => by cases hc) (fun h => absurd rfl h)
      refine .inr ⟨k, cs, e, tx, b, t, rest, r3, wAt_of h _ cs tx rest k e (by rw [List.length_take]; have := F.le; omega) F.text, hi, F.word, F.go, (fun h => by cases h), ?_⟩
      rw [hr, F.out, List.nil_append, List.append_assoc]
      congr 1
  · refine .inr ⟨0, cs, e, tx, b, t, rest, r2, wAt_of h [] cs tx rest 0 e rfl hh, ?_, hc, hg, fun _ => rfl, ?_⟩
    · rw [hh]; exact coded_here hc rest
    · rw [hr, List.take_zero]; simp

theorem decode_start (s r : List UInt8) (hs : specL s [] false = some r) : (indexO eq2 s = none ∧ r = s) ∨ ∃ k, indexO eq2 s = some k ∧ k ≤ s.length ∧ AtD (s.drop k) (s.take k) r false := by
  cases hi : indexO eq2 s with
  | none => exact .inl ⟨rfl, by have := specL_none _ s [] false r (Nat.le_refl _) hi hs (fun h => absurd rfl h); rw [this]; rfl⟩
  | some k =>
    obtain ⟨cs, e, tx, b, t, rest, r3, F⟩ := specL_some _ s [] false r k (Nat.le_refl _) hi hs (fun _ hc => by cases hc) (fun h => absurd rfl h)
    refine .inr ⟨k, rfl, F.le, .inr ⟨rfl, cs, e, tx, b, t, rest, r3, ?_, F.word, F.go, ?_⟩⟩
    · have := F.text
      have h2 : s.drop k = (s.take k ++ ((61 :: 63 :: (cs ++ 63 :: e :: 63 :: (tx ++ [63, 61]))) ++ rest)).drop k := congrArg (List.drop k) this
      rw [h2, List.drop_left' (by rw [List.length_take]; have := F.le; omega)]
    · rw [F.out]; unfold gapO; simp

theorem zzIndex_is (s sub : ByteArray) (k : Nat) (w : World) (hs : s.size ≤ 2147483647) (hsub : sub.size ≤ 2147483647) (h : indexO sub.data.toList s.data.toList = some k) :
    Calls Tryd.prog 33 #[.string s, .string sub] w fun e w' => e = .returned (.int .i64 (k : Int)) ∧ w = w' :=
  (zzIndex_any s sub w hs hsub).mono (by rintro e w' ⟨rfl, rfl⟩; exact ⟨by unfold indexZ; rw [h], rfl⟩)
theorem zzIndex_no (s sub : ByteArray) (w : World) (hs : s.size ≤ 2147483647) (hsub : sub.size ≤ 2147483647) (h : indexO sub.data.toList s.data.toList = none) :
    Calls Tryd.prog 33 #[.string s, .string sub] w fun e w' => e = .returned (.int .i64 (-1)) ∧ w = w' :=
  (zzIndex_any s sub w hs hsub).mono (by rintro e w' ⟨rfl, rfl⟩; exact ⟨by unfold indexZ; rw [h], rfl⟩)

/-- What holds of the builder at bb through DecodeHeader. -/
structure BldD (w : World) (bb : Nat) (out : List UInt8) (wr : World) : Prop where
  bld : IsB bb out wr
  apart : ∀ k, k < w.heap.size → Apart wr bb k
  below : Below w.heap.size w wr
theorem BldD.step {w : World} {bb : Nat} {out out2 : List UInt8} {wr w2 : World} (h : BldD w bb out wr) (hb : IsB bb out2 w2) (hs : BStep bb wr w2) : BldD w bb out2 w2 :=
  ⟨hb, fun k hk => (hs.kept k (Nat.lt_of_lt_of_le hk h.below.size) (h.apart k hk)).2, h.below.trans (hs.below h.apart h.below.size)⟩
theorem BldD.under {w : World} {bb : Nat} {out : List UInt8} {wr w2 : World} (h : BldD w bb out wr) (hb : Below wr.heap.size wr w2) : BldD w bb out w2 :=
  h.step (h.bld.below hb) (BStep.of_below hb h.bld.lt)

set_option maxHeartbeats 8000000 in
set_option maxRecDepth 100000 in
theorem decodeHeader_any (d : Value) (s : ByteArray) (r : List UInt8) (w : World) (hs : s.size ≤ 1000000) (hok : ∀ c ∈ s.data.toList, 32 ≤ c.toNat ∧ c.toNat ≤ 126) (hr : specL s.data.toList [] false = some r) :
    Calls Tryd.prog 21 #[d, .string s] w fun e w' => e = .returned (.tuple #[.string (mkB r), .nilIface]) ∧ Below w.heap.size w w' := by
  have Hsl := hidF (size_of_list s)
  have Hok := hidF hok
  rcases decode_start _ _ hr with ⟨hi, rfl⟩ | ⟨k, hi, hk, hat⟩
  · have hx := hidF (zzIndex_no s eqS w (by omega) (by decide) hi)
    clear hi hr hok
    go_enter Tryd.func21, Tryd.ntmps21
    go_wp2_with fail
    refine hx.out.mono ?_
    rintro e w1 ⟨rfl, rfl⟩
    go_wp2_with fail
    go_ret2
    exact ⟨by rw [list_mkB]; rfl, Below.refl _ _⟩
  · have hx := hidF (zzIndex_is s eqS k w (by omega) (by decide) hi)
    rw [← Hsl.out] at hk
    have k0 : (k : Int) ≤ (s.size : Int) := by omega
    have k1 : ((k : Int) == -1) = false := beq_eq_false_iff_ne.2 (by omega)
    obtain ⟨pre, hpre⟩ : ∃ x, x = s.extract 0 k := ⟨_, rfl⟩
    obtain ⟨h0, hh0⟩ : ∃ x, x = s.extract k s.size := ⟨_, rfl⟩
    have x1 := hpre.symm
    have x2 := hh0.symm
    have hpl : pre.data.toList = s.data.toList.take k := by rw [hpre, extract_mkB, mkB_list]; rfl
    have hhl : h0.data.toList = s.data.toList.drop k := by rw [hh0, from_mkB, mkB_list]
    rw [← hpl, ← hhl] at hat
    have hsz1 : pre.size = k := by rw [size_of_list, hpl, List.length_take, ← Hsl.out]; omega
    have hsz2 : h0.size = s.size - k := by rw [size_of_list, hhl, List.length_drop, ← Hsl.out]
    have hok2 := hidF (show ∀ c ∈ h0.data.toList, 32 ≤ c.toNat ∧ c.toNat ≤ 126 from fun c hc => Hok.out c (by rw [hhl] at hc; exact List.mem_of_mem_drop hc))
    have Hat := hidF hat
    have hbd0 : BldD w w.heap.size [] (w.alloc (.cells #[.pointer none, .slice none 0 0] 64)) := ⟨IsB.fresh w, fun k hk => apart_fresh w k hk, (Below.refl _ _).alloc (Nat.le_refl _) _⟩
    have hws := hidF (WriteString_R w.heap.size [] pre (w.alloc (.cells #[.pointer none, .slice none 0 0] 64)) hbd0.bld (by rw [hsz1]; simp; omega))
    have Hbd0 := hidF hbd0
    have hl0 : pre.size + 2 * h0.size ≤ 2 * s.size ∧ h0.size ≤ s.size := by omega
    clear hpre hh0 hpl hhl hat hi hr hok hbd0 hsz1 hsz2
    go_enter Tryd.func21, Tryd.ntmps21
    go_wp2_with fail
    refine hx.out.mono ?_
    rintro e w1 ⟨rfl, rfl⟩
    go_wp2_with fail
    refine hws.out.mono ?_
    rintro e w1 ⟨rfl, hB1, hS1⟩
    have Hbd := hidF (Hbd0.out.step hB1.is hS1)
    rw [List.nil_append] at Hbd
    clear hB1 hS1 hws hx Hbd0
    go_wp2_with fail
    clear x1 x2 k0 k1
    go_loopw [1, 8] (fun hv bv wr => ∃ (h : ByteArray) (bt : Bool) (out : List UInt8), hv = .string h ∧ bv = .bool bt ∧ (out.length + 2 * h.size ≤ 2 * s.size ∧ h.size ≤ s.size) ∧ Hid (AtD h.data.toList out r bt ∧ BldD w w.heap.size out wr ∧ ∀ c ∈ h.data.toList, 32 ≤ c.toNat ∧ c.toNat ≤ 126)) (fun hv _ _ => match hv with | .string h => h.size | _ => 0)
    case atStart => exact ⟨h0, false, pre.data.toList, rfl, rfl, by rw [← size_of_list]; exact hl0, hidF ⟨Hat.out, Hbd.out, hok2.out⟩⟩
    case round =>
      clear Hat Hbd hok2 hl0
      obtain ⟨h, bt, out, rfl, rfl, ⟨hl1, hl2⟩, hst⟩ := hrel
      have Hhl := hidF (size_of_list h)
      rcases atD_next _ _ _ _ hst.out.1 with ⟨rfl, hi, hrr⟩ | ⟨k, cs, e0, tx, b, t, rest, r2, N⟩
      · have hx := hidF (zzIndex_no h eqS wr (by omega) (by decide) hi)
        have Hrr := hidF hrr
        have hbd := hidF hst.out.2.1
        clear hi hrr hst
        by_cases hz : h.size = 0
        · have z0 : ¬ (0 : Int) < (h.size : Int) := by omega
          have hfin := hidF (show r = out by
            have h1 : h.data.toList = [] := List.eq_nil_of_length_eq_zero (by rw [← Hhl.out]; exact hz)
            rw [Hrr.out, h1, List.append_nil])
          have hstr := hidF (Tryd.Builder_String_any_k w.heap.size w.heap.size out wr (hbd.out.bld.up hbd.out.apart) hbd.out.below.size)
          clear hz
          go_wp2_with fail
          refine hx.out.mono ?_
          rintro e w2 ⟨rfl, rfl⟩
          go_wp2_with fail
          refine hstr.out.mono ?_
          rintro e w3 ⟨rfl, _, hb3, _⟩
          have hb4 := hidF (hbd.out.below.trans hb3)
          clear hb3 hstr hx
          go_wp2_with fail
          go_ret2
          exact ⟨by rw [hfin.out]; rfl, hb4.out⟩
        · have z0 : (0 : Int) < (h.size : Int) := by omega
          have hws := hidF (WriteString_R w.heap.size out h wr hbd.out.bld (by omega))
          clear hz
          go_wp2_with fail
          refine hx.out.mono ?_
          rintro e w2 ⟨rfl, rfl⟩
          go_wp2_with fail
          refine hws.out.mono ?_
          rintro e w2 ⟨rfl, hB2, hS2⟩
          have hbd2 := hidF (hbd.out.step hB2.is hS2)
          have hstr := hidF (Tryd.Builder_String_any_k w.heap.size w.heap.size (out ++ h.data.toList) w2 (hbd2.out.bld.up hbd2.out.apart) hbd2.out.below.size)
          clear hB2 hS2 hws hx hbd
          go_wp2_with fail
          refine hstr.out.mono ?_
          rintro e w3 ⟨rfl, _, hb3, _⟩
          have hb4 := hidF (hbd2.out.below.trans hb3)
          clear hb3 hstr
          go_wp2_with fail
          go_ret2
          exact ⟨by rw [Hrr.out]; rfl, hb4.out⟩
      · have W := N.at_
        obtain ⟨a, ha⟩ : ∃ a, a = cs.length := ⟨_, rfl⟩
        obtain ⟨c, hc⟩ : ∃ c, c = tx.length := ⟨_, rfl⟩
        have hlen := W.len
        rw [← Hhl.out, ← ha, ← hc] at hlen
        obtain ⟨p1, e1⟩ : ∃ p1, p1 = k + 2 := ⟨_, rfl⟩
        obtain ⟨pa, ea⟩ : ∃ pa, pa = p1 + a := ⟨_, rfl⟩
        obtain ⟨p2, e2⟩ : ∃ p2, p2 = p1 + (a + 1) := ⟨_, rfl⟩
        obtain ⟨p3, e3⟩ : ∃ p3, p3 = p2 + 1 := ⟨_, rfl⟩
        obtain ⟨p4, e4⟩ : ∃ p4, p4 = p3 + 1 := ⟨_, rfl⟩
        obtain ⟨p5, e5⟩ : ∃ p5, p5 = p4 + c := ⟨_, rfl⟩
        obtain ⟨p6, e6⟩ : ∃ p6, p6 = p5 + 2 := ⟨_, rfl⟩
        have w1 : (k : Int) + 2 = (p1 : Int) := by omega
        have wa : (p1 : Int) + (a : Int) = (pa : Int) := by omega
        have w2 : (p1 : Int) + ((a : Int) + 1) = (p2 : Int) := by omega
        have w3 : (p2 : Int) + 1 = (p3 : Int) := by omega
        have w4 : (p3 : Int) + 1 = (p4 : Int) := by omega
        have w5 : (p4 : Int) + (c : Int) = (p5 : Int) := by omega
        have w6 : (p5 : Int) + 2 = (p6 : Int) := by omega
        have b1 : (p1 : Int) ≤ (h.size : Int) := by omega
        have ba1 : (p1 : Int) ≤ (pa : Int) := by omega
        have ba : (pa : Int) ≤ (h.size : Int) := by omega
        have b2 : (p2 : Int) < (h.size : Int) := by omega
        have b3 : (p3 : Int) < (h.size : Int) := by omega
        have b4 : (p4 : Int) ≤ (h.size : Int) := by omega
        have b45 : (p4 : Int) ≤ (p5 : Int) := by omega
        have b5 : (p5 : Int) ≤ (h.size : Int) := by omega
        have b6 : (p6 : Int) ≤ (h.size : Int) := by omega
        have bk : (k : Int) ≤ (h.size : Int) := by omega
        have t4 : ¬ (h.size : Int) < (p2 : Int) + 4 := by
          have := N.word.ne
          have : 0 < tx.length := List.length_pos_iff.2 this
          omega
        have hp2 : p2 < h.size := by omega
        have hp3 : p3 < h.size := by omega
        obtain ⟨csB, hcsB⟩ : ∃ x, x = h.extract p1 pa := ⟨_, rfl⟩
        obtain ⟨h1, hh1⟩ : ∃ x, x = h.extract p1 h.size := ⟨_, rfl⟩
        obtain ⟨h2, hh2⟩ : ∃ x, x = h.extract p4 h.size := ⟨_, rfl⟩
        obtain ⟨txB, htxB⟩ : ∃ x, x = h.extract p4 p5 := ⟨_, rfl⟩
        obtain ⟨hre, hhre⟩ : ∃ x, x = h.extract p6 h.size := ⟨_, rfl⟩
        obtain ⟨gp, hgp⟩ : ∃ x, x = h.extract 0 k := ⟨_, rfl⟩
        have x1 := hcsB.symm
        have x2 := hh1.symm
        have x3 := hh2.symm
        have x4 := htxB.symm
        have x5 := hhre.symm
        have x6 := hgp.symm
        have lcs : csB.data.toList = cs := by rw [hcsB, extract_mkB, mkB_list, ea, Nat.add_sub_cancel_left, e1, ha]; exact W.t1
        have lh1 : h1.data.toList = cs ++ 63 :: (e0 :: 63 :: (tx ++ 63 :: 61 :: rest)) := by rw [hh1, from_mkB, mkB_list, e1]; exact W.d1
        have lh2 : h2.data.toList = tx ++ 63 :: 61 :: rest := by rw [hh2, from_mkB, mkB_list, show p4 = k + 2 + cs.length + 3 by omega]; exact W.d2
        have ltx : txB.data.toList = tx := by rw [htxB, extract_mkB, mkB_list, e5, Nat.add_sub_cancel_left, show p4 = k + 2 + cs.length + 3 by omega, hc]; exact W.t2
        have lre : hre.data.toList = rest := by rw [hhre, from_mkB, mkB_list, show p6 = k + 2 + cs.length + 3 + tx.length + 2 by omega]; exact W.d3
        have lgp : gp.data.toList = h.data.toList.take k := by rw [hgp, extract_mkB, mkB_list]; rfl
        have hg2 : h[p2] = e0 := by
          have := W.g1
          rw [show k + 2 + cs.length + 1 = p2 by omega, get_of h p2 hp2] at this
          exact Option.some.inj this
        have hg3 : h[p3] = 63 := by
          have := W.g2
          rw [show k + 2 + cs.length + 2 = p3 by omega, get_of h p3 hp3] at this
          exact Option.some.inj this
        have q3 : ((h[p3].toNat : Int) != 63) = false := by rw [hg3]; rfl
        have z0 : ((k : Int) == -1) = false := beq_eq_false_iff_ne.2 (by omega)
        have za : ((a : Int) == -1) = false := beq_eq_false_iff_ne.2 (by omega)
        have zc : ((c : Int) == -1) = false := beq_eq_false_iff_ne.2 (by omega)
        have hsz1 : h1.size ≤ 1000000 := by rw [size_of_list, lh1, ← W.d1, List.length_drop, ← Hhl.out]; omega
        have hsz2 : h2.size ≤ 1000000 := by rw [size_of_list, lh2, ← W.d2, List.length_drop, ← Hhl.out]; omega
        have hx0 := hidF (zzIndex_is h eqS k wr (by omega) (by decide) N.index)
        have hx1 := hidF (zzIndex_is h1 qS a wr (by omega) (by decide) (by rw [lh1, ha]; exact indexO_one 63 cs _ N.word.nocs))
        have hx2 := hidF (zzIndex_is h2 endS c wr (by omega) (by decide) (by rw [lh2, hc]; exact indexO_two 63 61 tx rest N.word.notx))
        have h75 : tx.length ≤ 75 := by have := N.word.len; simp at this; omega
        have hdec := decode_any e0 txB b wr N.word.noe (by rw [ltx]; exact N.word.way) (by rw [ltx]; exact N.word.ne) (by rw [size_of_list, ltx]; omega)
        clear h75
        rw [← hg2] at hdec
        have Hdec := hidF hdec
        have hbl := way_len _ _ _ N.word.way
        have htl := conv_len _ _ _ N.word.conv
        have hconv := hidF (show convL csB.data.toList b = some t by rw [lcs]; exact N.word.conv)
        have hAt := hidF (fun (o2 : List UInt8) (ho : o2 = out ++ (if (h.data.toList.take k).all isSp then [] else h.data.toList.take k)) => (show AtD hre.data.toList (o2 ++ t) r true from .inl ⟨rfl, r2, by rw [lre]; exact N.go, by rw [N.out, ho]; simp only [List.append_assoc]⟩))
        have hok2 := hidF (show ∀ x ∈ hre.data.toList, 32 ≤ x.toNat ∧ x.toNat ≤ 126 from fun x hx => hst.out.2.2 x (by rw [lre, ← W.d3] at hx; exact List.mem_of_mem_drop hx))
        have hok3 := hidF (show ∀ x ∈ gp.data.toList, 32 ≤ x.toNat ∧ x.toNat ≤ 126 from fun x hx => hst.out.2.2 x (by rw [lgp] at hx; exact List.mem_of_mem_take hx))
        have hresz : hre.size = rest.length := by rw [size_of_list, lre]
        have hgsz : gp.size = k := by rw [size_of_list, lgp, List.length_take, ← Hhl.out]; omega
        have hbt : k = 0 ∨ bt = true := by
          cases bt with
          | false => exact .inl (N.first rfl)
          | true => exact .inr rfl
        have hbd := hidF hst.out.2.1
        have Lgp := hidF lgp
        have hsizes := hidF (show t.length + 2 * hre.size + k ≤ 2 * h.size ∧ hre.size + 1 ≤ h.size ∧ 2 * b.length ≤ 2 * h.size ∧ gp.size = k by omega)
        have hfar := hidF (show out.length + k + 2 * b.length ≤ 100000000 by omega)
        clear W ha hc hlen e1 ea e2 e3 e4 e5 e6 hcsB hh1 hh2 htxB hhre hgp lcs lh1 lh2 ltx lre lgp hg2 hg3 hsz1 hsz2 hdec hbl htl hresz hgsz hst N
        -- the word is found and decoded
        have front : ∀ (wz : World) (o2 : List UInt8) (g cap : Nat), BldD w w.heap.size o2 wz → Apart wz w.heap.size g → (∀ j x, b[j]? = some x → wz.cell? ⟨g, j, none⟩ = some (.int .u8 (x.toNat : Int))) → o2.length ≤ out.length + k →
            Hid (Calls Tryd.prog 31 #[d, .pointer (some ⟨w.heap.size, 0, none⟩), .string csB, .slice (some ⟨g, 0, none⟩) b.length cap] wz fun e w' => e = .returned .nilIface ∧ BldD w w.heap.size (o2 ++ t) w') := by
          intro wz o2 g cap hB hA hcl hol
          refine hidF ((convert_any d w.heap.size g cap csB b t o2 wz hB.bld hA (by have := hfar.out; omega) hconv.out hcl).mono ?_)
          rintro e w' ⟨rfl, h1, h2⟩
          exact ⟨rfl, hB.step h1 h2⟩
        have Front := hidF front
        clear front
        go_wp2_with fail
        refine hx0.out.mono ?_
        rintro e wx ⟨rfl, rfl⟩
        go_wp2_with fail
        refine hx1.out.mono ?_
        rintro e wx ⟨rfl, rfl⟩
        go_wp2_with fail
        refine hx2.out.mono ?_
        rintro e wx ⟨rfl, rfl⟩
        go_wp2_with fail
        refine Hdec.out.mono ?_
        rintro e wz ⟨hbz, g, cap, rfl, hg1, hg2, hcells⟩
        have HBz := hidF (hbd.out.under hbz)
        have HAz := hidF (apart_new hbd.out.bld hbz hg1)
        have HCz := hidF hcells
        have HGz := hidF hg2
        clear hbz hg1 hg2 hcells hx0 hx1 hx2 Hdec
        by_cases hk0 : k = 0
        · have y0 : ¬ (0 : Int) < (k : Int) := by omega
          have hcv := Front.out wz out g cap HBz.out HAz.out HCz.out (by omega)
          have hat2 := hidF (hAt.out out (by rw [hk0, List.take_zero]; simp))
          clear hk0
          go_wp2_with fail
          refine hcv.out.mono ?_
          rintro e wy ⟨rfl, hBy⟩
          have hrel2 := hidF (show ∃ (h : ByteArray) (bt : Bool) (o3 : List UInt8), Value.string hre = .string h ∧ Value.bool true = .bool bt ∧ (o3.length + 2 * h.size ≤ 2 * s.size ∧ h.size ≤ s.size) ∧ Hid (AtD h.data.toList o3 r bt ∧ BldD w w.heap.size o3 wy ∧ ∀ c ∈ h.data.toList, 32 ≤ c.toNat ∧ c.toNat ≤ 126) from
            ⟨hre, true, out ++ t, rfl, rfl, by have := hsizes.out; rw [List.length_append]; omega, hidF ⟨hat2.out, hBy, hok2.out⟩⟩)
          have hms := hsizes.out.2.1
          clear hBy hcv
          go_wp2_with fail
          go_roundw
          case rel => exact hrel2.out
          case measure => simp; omega
        · have y0 : (0 : Int) < (k : Int) := by omega
          obtain rfl : bt = true := by rcases hbt with h | h; exact absurd h hk0; exact h
          have hnw := hidF (nonWs_any gp wz (by have := hsizes.out.2.2.2; omega) hok3.out)
          cases hall : gp.data.toList.all isSp with
          | true =>
            rw [hall] at hnw
            have hat2 := hidF (hAt.out out (by rw [← Lgp.out, hall]; simp))
            clear hk0 hall
            go_wp2_with fail
            refine hnw.out.mono ?_
            rintro e wv ⟨rfl, hbv⟩
            have hcv := Front.out wv out g cap (HBz.out.under hbv) (((BStep.of_below hbv HBz.out.bld.lt).kept g HGz.out HAz.out).2) (fun j x hj => (hbv.cell (p := ⟨g, j, none⟩) HGz.out).trans (HCz.out j x hj)) (by omega)
            clear hbv hnw
            go_wp2_with fail
            refine hcv.out.mono ?_
            rintro e wy ⟨rfl, hBy⟩
            have hrel2 := hidF (show ∃ (h : ByteArray) (bt : Bool) (o3 : List UInt8), Value.string hre = .string h ∧ Value.bool true = .bool bt ∧ (o3.length + 2 * h.size ≤ 2 * s.size ∧ h.size ≤ s.size) ∧ Hid (AtD h.data.toList o3 r bt ∧ BldD w w.heap.size o3 wy ∧ ∀ c ∈ h.data.toList, 32 ≤ c.toNat ∧ c.toNat ≤ 126) from
              ⟨hre, true, out ++ t, rfl, rfl, by have := hsizes.out; rw [List.length_append]; omega, hidF ⟨hat2.out, hBy, hok2.out⟩⟩)
            have hms := hsizes.out.2.1
            clear hBy hcv
            go_wp2_with fail
            go_roundw
            case rel => exact hrel2.out
            case measure => simp; omega
          | false =>
            rw [hall] at hnw
            have hat2 := hidF (hAt.out (out ++ gp.data.toList) (by rw [← Lgp.out, hall]; simp))
            have hgl := hidF (show gp.data.toList.length = k by rw [← size_of_list]; exact hsizes.out.2.2.2)
            clear hk0 hall
            go_wp2_with fail
            refine hnw.out.mono ?_
            rintro e wv ⟨rfl, hbv⟩
            have hBv := hidF (HBz.out.under hbv)
            have hAv := hidF (((BStep.of_below hbv HBz.out.bld.lt).kept g HGz.out HAz.out).2)
            have hCv := hidF (fun j x (hj : b[j]? = some x) => (hbv.cell (p := ⟨g, j, none⟩) HGz.out).trans (HCz.out j x hj))
            have hGv := hidF (Nat.lt_of_lt_of_le HGz.out hbv.size)
            have hws := hidF (WriteString_R w.heap.size out gp wv hBv.out.bld (by have := hsizes.out; have := hfar.out; omega))
            clear hbv hnw
            go_wp2_with fail
            refine hws.out.mono ?_
            rintro e wu ⟨rfl, hBu, hSu⟩
            have hcv := Front.out wu (out ++ gp.data.toList) g cap (hBv.out.step hBu.is hSu) ((hSu.kept g hGv.out hAv.out).2) (fun j x hj => hSu.cell hAv.out (hCv.out j x hj)) (by rw [List.length_append, hgl.out]; omega)
            clear hBu hSu hws
            go_wp2_with fail
            refine hcv.out.mono ?_
            rintro e wy ⟨rfl, hBy⟩
            have hrel2 := hidF (show ∃ (h : ByteArray) (bt : Bool) (o3 : List UInt8), Value.string hre = .string h ∧ Value.bool true = .bool bt ∧ (o3.length + 2 * h.size ≤ 2 * s.size ∧ h.size ≤ s.size) ∧ Hid (AtD h.data.toList o3 r bt ∧ BldD w w.heap.size o3 wy ∧ ∀ c ∈ h.data.toList, 32 ≤ c.toNat ∧ c.toNat ≤ 126) from
              ⟨hre, true, out ++ gp.data.toList ++ t, rfl, rfl, by have := hsizes.out; rw [List.length_append, List.length_append, hgl.out]; omega, hidF ⟨hat2.out, hBy, hok2.out⟩⟩)
            have hms := hsizes.out.2.1
            clear hBy hcv
            go_wp2_with fail
            go_roundw
            case rel => exact hrel2.out
            case measure => simp; omega

set_option maxHeartbeats 1000000 in
theorem implHeader_any (s : ByteArray) (r : List UInt8) (w : World) (hs : s.size ≤ 1000000) (hok : ∀ c ∈ s.data.toList, 32 ≤ c.toNat ∧ c.toNat ≤ 126) (hr : specL s.data.toList [] false = some r) :
    Calls Tryd.prog 12 #[.string s] w fun e w' => e = .returned (.tuple #[.string (mkB r), .bool true]) ∧ Below w.heap.size w w' := by
  have hcall := hidF (fun d w => decodeHeader_any d s r w hs hok hr)
  clear hok hr
  go_enter Tryd.func12, Tryd.ntmps12
  go_wp2_with fail
  refine (hcall.out _ _).mono ?_
  rintro e w1 ⟨rfl, hb⟩
  have HB := hidF (show Below w.heap.size w w1 from ((Below.refl w.heap.size w).alloc (Nat.le_refl _) _).trans (hb.mono (by simp)))
  clear hb hcall
  go_wp2_with fail
  go_quiet (fail)
  go_wp2_with fail
  go_ret2
  exact ⟨rfl, HB.out.trans ⟨rfl, rfl, rfl, Nat.le_refl _, fun _ _ => rfl⟩⟩
end Go.Proofs.YtbpoecfbcmdeeaaDoor
