/- base64's encoder beside its builder: what holds of both. -/
import Derived.Test.YtbpoecfbcmdeeaaDoorEncC
import Derived.Test.YtbpoecfbcmdeeaaDoorEncL
import Derived.Test.YtbpoecfbcmdeeaaDoorDHead
import Derived.Laws.CopyOwn
namespace Go.Proofs.YtbpoecfbcmdeeaaDoor
open Go.RowKit

theorem isB_put {b k : Nat} {bs : List UInt8} {w w' : World} (h : IsB b bs w) (hg : w.grownBy w' (some k)) (ha : Apart w b k) : IsB b bs w' := by
  have go : ∀ p, Lib.BuilderAtF 64 5 0 b p (Lib.byteCells bs) w → Lib.BuilderAtF 64 5 0 b p (Lib.byteCells bs) w' := by
    intro p hp
    have hlt := hp.lt
    obtain ⟨hB, v, hbk, hown, hne⟩ := hp
    have hc : w.cell? ⟨b, 1, none⟩ = some v := by rw [cell_of_row w b 1 _ _ _ hbk]; rfl
    exact ⟨hB, v, (hg.block b hlt (fun e => ha.1 (Option.some.inj e).symm)).trans hbk, hown.kept hg (by
      have := ha.2 v hc
      cases hv : v.ownBlock with
      | none => exact .inl rfl
      | some j => exact .inr (fun e => this (hv.trans e))), hne⟩
  exact h.elim (fun x => .inl (go _ x)) (fun x => .inr (go _ x))
theorem apart_put {b j k : Nat} {w w' : World} (h : Apart w b j) (hg : w.grownBy w' (some k)) (hk : k ≠ b) (hb : b < w.heap.size) : Apart w' b j :=
  ⟨h.1, fun v hv => h.2 v (by
    have e : w'.cell? ⟨b, 1, none⟩ = w.cell? ⟨b, 1, none⟩ := World.cell?_of_block (hg.block b hb (fun e => hk (Option.some.inj e).symm))
    rw [← e]; exact hv)⟩
theorem BldD.put {w0 : World} {bb k : Nat} {A : List UInt8} {w w' : World} (h : BldD w0 bb A w) (hg : w.grownBy w' (some k)) (ha : Apart w bb k) (hk : w0.heap.size ≤ k) : BldD w0 bb A w' :=
  ⟨isB_put h.bld hg ha, fun j hj => apart_put (h.apart j hj) hg ha.1 h.bld.lt, h.below.trans ⟨hg.os, hg.tape, hg.output, hg.size, fun j hj => hg.block j (Nat.lt_of_lt_of_le hj h.below.size) (fun e => by have := Option.some.inj e; omega)⟩⟩

/-- The encoder at eb over the builder at wb; b: the alphabet. -/
structure EncSt (w0 : World) (wb eb b : Nat) (A : List UInt8) (S : List Value) (w : World) : Prop where
  bld : BldD w0 wb A w
  obj : Ob w eb 117 S
  ap : Apart w wb eb
  apb : Apart w wb b
  enc : EncAt w b
  old : w0.heap.size ≤ eb
  ne : eb ≠ b

theorem EncSt.put {w0 : World} {wb eb b : Nat} {A : List UInt8} {S S' : List Value} {w w' : World} (h : EncSt w0 wb eb b A S w) (hg : w.grownBy w' (some eb)) (ho : Ob w' eb 117 S') : EncSt w0 wb eb b A S' w' :=
  ⟨h.bld.put hg h.ap h.old, ho, apart_put h.ap hg h.ap.1 h.bld.bld.lt, apart_put h.apb hg h.ap.1 h.bld.bld.lt, grown_enc hg (fun e => h.ne e.symm) h.enc, h.old, h.ne⟩
theorem EncSt.step {w0 : World} {wb eb b : Nat} {A A' : List UInt8} {S : List Value} {w w' : World} (h : EncSt w0 wb eb b A S w) (hb : IsB wb A' w') (hs : BStep wb w w') : EncSt w0 wb eb b A' S w' :=
  ⟨h.bld.step hb hs, h.obj.same (hs.kept eb h.obj.lt h.ap).1, (hs.kept eb h.obj.lt h.ap).2, (hs.kept b h.enc.lt h.apb).2, (hs.kept b h.enc.lt h.apb).1.trans h.enc, h.old, h.ne⟩
theorem EncSt.under {w0 : World} {wb eb b : Nat} {A : List UInt8} {S : List Value} {w w' : World} (h : EncSt w0 wb eb b A S w) (hb : Below w.heap.size w w') : EncSt w0 wb eb b A S w' :=
  h.step (h.bld.bld.below hb) (BStep.of_below hb h.bld.bld.lt)
theorem EncSt.set {w0 : World} {wb eb b : Nat} {A : List UInt8} {S : List Value} {w : World} (h : EncSt w0 wb eb b A S w) (j : Nat) (v : Value) : EncSt w0 wb eb b A (S.set j v) (w.setCell ⟨eb, j, none⟩ v) :=
  h.put (grown_setAt _ _ _ _) (h.obj.set j v)
theorem EncSt.drewN {w0 : World} {wb eb b : Nat} {A : List UInt8} {S : List Value} {w : World} (h : EncSt w0 wb eb b A S w) (n : Nat) : EncSt w0 wb eb b A S (w.drewN n) :=
  h.under ⟨rfl, rfl, rfl, Nat.le_refl _, fun _ _ => rfl⟩
theorem encS_len (b wb : Nat) (x0 x1 x2 : Value) (nb : Nat) (out : List Value) : (encS b wb x0 x1 x2 nb out).length = 7 + out.length := by simp [encS]; omega
theorem encS_splice (b wb : Nat) (x0 x1 x2 : Value) (nb : Nat) (out cs : List Value) : splice (encS b wb x0 x1 x2 nb out) 7 cs = encS b wb x0 x1 x2 nb (splice out 0 cs) := by
  simp only [splice, encS, show 7 + cs.length = (0 + cs.length) + 1 + 1 + 1 + 1 + 1 + 1 + 1 by omega, List.drop_succ_cons]
  rfl
/-- Encode into the encoder's room. -/
theorem encode_call {w0 : World} {wb eb b : Nat} {A : List UInt8} {y0 y1 y2 : Value} {nb : Nat} {out : List Value} {w : World} (h : EncSt w0 wb eb b A (encS b wb y0 y1 y2 nb out) w) (hout : out.length = 1024) (sg so N cap : Nat) (l : List UInt8) (hN : l.length = N) (hl : 1 ≤ N ∧ N ≤ 45) (hcap : N ≤ cap)
    (hs : ∀ j x, l[j]? = some x → w.cell? ⟨sg, so + j, none⟩ = some (.int .u8 (x.toNat : Int))) (hap : sg ≠ eb ∨ so + N ≤ 7) :
    Calls Tryd.prog 110 #[.pointer (some ⟨b, 0, none⟩), .slice (some ⟨eb, 7, none⟩) 1024 1024, .slice (some ⟨sg, so, none⟩) N cap] w fun e w' => e = .returned (.tuple #[]) ∧ EncSt w0 wb eb b A (encS b wb y0 y1 y2 nb (splice out 0 (Lib.byteCells (b64L l)))) w' ∧ w.grownBy w' (some eb) := by
  subst hN
  have hb := b64L_len l
  refine (Encode_any b eb 7 1024 1024 sg so cap l _ _ w h.enc h.obj h.ne (by intro e; subst e; simp at hl) (by omega) (by rw [encS_len]; omega) (by omega) (by omega) (Nat.le_refl _) hcap (by omega) hs hap).mono ?_
  rintro e w' ⟨rfl, ho, hg⟩
  rw [encS_splice] at ho
  exact ⟨rfl, h.put hg ho, hg⟩
/-- The builder's Write of what stands in the room. -/
theorem write_call {w0 : World} {wb eb b : Nat} {A : List UInt8} {y0 y1 y2 : Value} {nb : Nat} {out : List Value} {w : World} (t : List UInt8) (M cap : Nat) (h : EncSt w0 wb eb b A (encS b wb y0 y1 y2 nb (splice out 0 (Lib.byteCells t))) w) (hM : t.length = M) (hA : A.length + M ≤ 1000000000) (hout : t.length ≤ out.length) :
    Calls Tryd.prog 47 #[.pointer (some ⟨wb, 0, none⟩), .slice (some ⟨eb, 7, none⟩) M cap] w fun e w' => e = .returned (.tuple #[.int .i64 M, .nilIface]) ∧ EncSt w0 wb eb b (A ++ t) (encS b wb y0 y1 y2 nb (splice out 0 (Lib.byteCells t))) w' ∧ BStep wb w w' := by
  subst hM
  refine (Write_R wb eb 7 cap A t w h.bld.bld hA (fun _ => h.ap) (fun j c hj => h.obj.cell _ _ ?_)).mono ?_
  · have hj1 : j < t.length := (List.getElem?_eq_some_iff.1 hj).1
    show (encS b wb y0 y1 y2 nb _)[7 + j]? = _
    have e : ∀ L : List Value, (encS b wb y0 y1 y2 nb L)[7 + j]? = L[j]? := by
      intro L
      simp only [encS, show 7 + j = j + 1 + 1 + 1 + 1 + 1 + 1 + 1 by omega, List.getElem?_cons_succ]
    rw [e, splice_get _ _ _ (by rw [bc_len]; omega), if_neg (by omega), if_pos (by rw [bc_len]; omega)]
    unfold Lib.byteCells
    rw [List.getElem?_map, Nat.sub_zero, hj]
    rfl
  · rintro e w' ⟨rfl, hb, hs⟩
    exact ⟨rfl, h.step hb.is hs, hs⟩
/-- copy into a block that is known whole. -/
theorem wpList_copy_ob {P : Program} {w : World} {ops : Array Oper} {rest : List Oper} {o : Oper} {a : Act} {Q : Exit → Act → World → Prop} (hgd : o.guard = none) (d s : Operand) (dT sT : TypeId)
    (ho : o.op = .call { callee := .builtin .copy, args := #[d, s], argTypes := #[dT, sT] }) (elem : TypeId) (hu : P.underlying dT = some (.slice elem)) (hsz : (P.info? elem).map (·.size) = some 1)
    (g off dLen dCap : Nat) (sp : Option Addr) (sLen sCap : Nat) (hd : a.eval d = .slice (some ⟨g, off, none⟩) dLen dCap) (hs : a.eval s = .slice sp sLen sCap)
    (L : List Value) (t : TypeId) (hg : Ob w g t L) (cs : List Value) (hn : cs.length = Nat.min sLen dLen)
    (hpos : 0 < cs.length → ∃ ad, sp = some ad ∧ ∀ j v, cs[j]? = some v → w.cell? (ad.add j) = some v)
    (hfit : off + cs.length ≤ L.length) (h1 : ∀ v ∈ cs, v.oneCell' = true)
    (h : ∀ w', Hid (Ob w' g t (splice L off cs)) → Hid (w.grownBy w' (some g)) → wpList P ops Q rest (a.put o.dst (goInt cs.length)) w') :
    wpList P ops Q (o :: rest) a w := by
  by_cases h0 : cs.length = 0
  · obtain rfl : cs = [] := List.eq_nil_of_length_eq_zero h0
    refine wpList_copy_nothing hgd d s dT sT ho elem hu hsz _ sp dLen dCap sLen sCap hd hs (by simpa using hn.symm) ?_
    exact h w (show _ = _ by rw [splice_nil]; exact hg) (grown_refl _ _)
  · obtain ⟨ad, rfl, hsrc⟩ := hpos (by omega)
    refine wpList_copy_own hgd d s dT sT ho elem hu hsz g off dLen dCap ad sLen sCap hd hs L.toArray t hg cs hn hsrc (by simpa using hfit) h1 ?_
    refine h _ (show _ = _ from ?_) (show World.grownBy _ _ _ from ⟨rfl, rfl, rfl, by simp [World.setRow], fun k hk hne => setRow_other w g k _ (fun e => hne (by rw [e]))⟩)
    rw [setRow_heap w g _ _ t _ hg]
    simp [splice]
theorem encS_buf (b wb : Nat) (y0 y1 y2 : Value) (nb : Nat) (out : List Value) : ∀ cs : List Value, cs.length ≤ 3 → ∃ z0 z1 z2 : Value, splice (encS b wb y0 y1 y2 nb out) 3 cs = encS b wb z0 z1 z2 nb out ∧ ∀ (j : Nat) (v : Value), cs[j]? = some v → ([z0, z1, z2] : List Value)[j]? = some v
  | [], _ => ⟨y0, y1, y2, rfl, fun j v h => by simp at h⟩
  | [a], _ => ⟨a, y1, y2, rfl, fun j v h => by match j with | 0 => exact h | j + 1 => simp at h⟩
  | [a, c], _ => ⟨a, c, y2, rfl, fun j v h => by match j with | 0 => exact h | 1 => exact h | j + 2 => simp at h⟩
  | [a, c, d], _ => ⟨a, c, d, rfl, fun j v h => h⟩
  | _ :: _ :: _ :: _ :: _, h => by simp at h
end Go.Proofs.YtbpoecfbcmdeeaaDoor
