/- base64's Encode: the walk. -/
import Derived.Test.YtbpoecfbcmdeeaaDoorEncB
namespace Go.Proofs.YtbpoecfbcmdeeaaDoor
open Go.RowKit

def lenV : Value → Nat
  | .slice _ n _ => n
  | _ => 0

/-- Where Encode stands: k groups of three are written. -/
structure EAt (w wr : World) (g o sg so b : Nat) (t : TypeId) (l : List UInt8) (L : List Value) (k : Nat) : Prop where
  ob : Ob wr g t (splice L o (Lib.byteCells (b64L (l.take (3 * k)))))
  grown : w.grownBy wr (some g)
  src : ∀ j x, l[j]? = some x → wr.cell? ⟨sg, so + j, none⟩ = some (.int .u8 (x.toNat : Int))
  enc : EncAt wr b
  fit : o + (b64L l).length ≤ L.length
  hgb : g ≠ b

theorem bc_len (l : List UInt8) : (Lib.byteCells l).length = l.length := Lib.byteCells_length l
theorem src_cell {w w' : World} {g o sg so n : Nat} {t : TypeId} {L A : List Value} (hg : Ob w g t L) (hg' : Ob w' g t (splice L o A)) (hgr : w.grownBy w' (some g)) (hA : o + A.length ≤ L.length) (hap : sg ≠ g ∨ so + n ≤ o) {j : Nat} {v : Value} (hj : j < n) (h : w.cell? ⟨sg, so + j, none⟩ = some v) :
    w'.cell? ⟨sg, so + j, none⟩ = some v := by
  by_cases hk : sg = g
  · subst hk
    rcases hap with hap | hap
    · exact absurd rfl hap
    · refine hg'.cell _ _ ?_
      rw [splice_get _ _ _ hA, if_pos (by omega)]
      rw [cell_of_row w _ _ _ _ _ hg, List.getElem?_toArray] at h
      exact h
  · exact grown_cell hgr hk h

theorem eat_start {w : World} {b g o sg so : Nat} {l : List UInt8} {L : List Value} {t : TypeId} (he : EncAt w b) (hg : Ob w g t L) (hgb : g ≠ b) (hfit : o + (b64L l).length ≤ L.length)
    (hs : ∀ j x, l[j]? = some x → w.cell? ⟨sg, so + j, none⟩ = some (.int .u8 (x.toNat : Int))) : EAt w w g o sg so b t l L 0 := by
  refine ⟨?_, grown_refl _ _, hs, he, hfit, hgb⟩
  show Ob w g t (splice L o [])
  rw [splice_nil]; exact hg

/-- Cells written behind those that are there. -/
theorem eat_put {w wr w' : World} {b g o sg so k q : Nat} {l : List UInt8} {L : List Value} {t : TypeId} (h : EAt w wr g o sg so b t l L k) (hap : sg ≠ g ∨ so + l.length ≤ o) (bs : List UInt8) (hq : q = o + (b64L (l.take (3 * k))).length)
    (hob : ∀ L', Ob wr g t L' → q + bs.length ≤ L'.length → Ob w' g t (splice L' q (Lib.byteCells bs))) (hgr : wr.grownBy w' (some g)) (hlen : (b64L (l.take (3 * k))).length + bs.length ≤ (b64L l).length) :
    Ob w' g t (splice L o (Lib.byteCells (b64L (l.take (3 * k)) ++ bs))) ∧ w.grownBy w' (some g) ∧ (∀ j x, l[j]? = some x → w'.cell? ⟨sg, so + j, none⟩ = some (.int .u8 (x.toNat : Int))) ∧ EncAt w' b := by
  have hf := h.fit
  have h1 := hob _ h.ob (by rw [length_splice _ _ _ (by rw [bc_len]; omega)]; omega)
  have e : Lib.byteCells (b64L (l.take (3 * k)) ++ bs) = Lib.byteCells (b64L (l.take (3 * k))) ++ Lib.byteCells bs := by simp [Lib.byteCells]
  rw [e]
  refine ⟨?_, grown_trans h.grown hgr, fun j x hj => ?_, grown_enc hgr (fun e => h.hgb e.symm) h.enc⟩
  · rw [← splice_app _ _ _ _ (by rw [bc_len, bc_len]; omega), bc_len, ← hq]; exact h1
  · exact src_cell h.ob h1 hgr (by rw [bc_len, length_splice _ _ _ (by rw [bc_len]; omega)]; omega) (hap.imp_right fun h => by omega) (List.getElem?_eq_some_iff.1 hj).1 (h.src j x hj)

theorem take3 (l : List UInt8) (k : Nat) (x y z : UInt8) (hx : l[3 * k]? = some x) (hy : l[3 * k + 1]? = some y) (hz : l[3 * k + 2]? = some z) : l.take (3 * (k + 1)) = l.take (3 * k) ++ [x, y, z] := by
  have e : l.take (3 * (k + 1)) = l.take (3 * k) ++ (l.drop (3 * k)).take 3 := by rw [show 3 * (k + 1) = 3 * k + 3 by omega, List.take_add]
  rw [e]
  congr 1
  have h1 : (l.drop (3 * k))[0]? = some x := by rw [List.getElem?_drop]; exact hx
  have h2 : (l.drop (3 * k))[1]? = some y := by rw [List.getElem?_drop]; exact hy
  have h3 : (l.drop (3 * k))[2]? = some z := by rw [List.getElem?_drop]; exact hz
  generalize l.drop (3 * k) = r at h1 h2 h3
  match r with
  | [] => simp at h1
  | [_] => simp at h2
  | [_, _] => simp at h3
  | a :: b :: c :: r => simp at h1 h2 h3; simp [h1, h2, h3]
theorem grown_drewN (w : World) (n : Nat) (g : Option Nat) : w.grownBy (w.drewN n) g := ⟨rfl, rfl, rfl, Nat.le_refl _, fun _ _ _ => rfl⟩
theorem Ob.drewN {w : World} {g : Nat} {t : TypeId} {L : List Value} (h : Ob w g t L) (n : Nat) : Ob (w.drewN n) g t L := h
theorem take_b64 (l : List UInt8) (k : Nat) (h : 3 * k ≤ l.length) : (b64L (l.take (3 * k))).length = 4 * k := by
  rw [b64L_len, List.length_take, Nat.min_eq_left h]; omega
/-- Four digits more. -/
theorem eat_put4 {w wr w1 : World} {b g o sg so k q : Nat} {l : List UInt8} {L : List Value} {t : TypeId} (h : EAt w wr g o sg so b t l L k) (hap : sg ≠ g ∨ so + l.length ≤ o) (hw : wr.grownBy w1 (some g)) (hw2 : ∀ L', Ob wr g t L' → Ob w1 g t L') (a c d e : UInt8) (hk : 3 * k ≤ l.length) (hq : q = o + 4 * k)
    (hlen : 4 * k + 4 ≤ (b64L l).length) {w' : World} (hw' : w' = (((w1.setCell ⟨g, q, none⟩ (.int .u8 (a.toNat : Int))).setCell ⟨g, q + 1, none⟩ (.int .u8 (c.toNat : Int))).setCell ⟨g, q + 2, none⟩ (.int .u8 (d.toNat : Int))).setCell ⟨g, q + 3, none⟩ (.int .u8 (e.toNat : Int))) :
    Ob w' g t (splice L o (Lib.byteCells (b64L (l.take (3 * k)) ++ [a, c, d, e]))) ∧ w.grownBy w' (some g) ∧ (∀ j x, l[j]? = some x → w'.cell? ⟨sg, so + j, none⟩ = some (.int .u8 (x.toNat : Int))) ∧ EncAt w' b := by
  subst hw'
  refine eat_put (q := q) h hap [a, c, d, e] (by rw [take_b64 _ _ hk]; exact hq) (fun L' hL' hl => ?_) (grown_trans hw (grown_set4 _ _ _ _ _ _ _ _ _ _)) (by rw [take_b64 _ _ hk]; exact hlen)
  exact (hw2 L' hL').set4 q _ _ _ _ hl
theorem eat_next {w wr w1 : World} {b g o sg so k q : Nat} {l : List UInt8} {L : List Value} {t : TypeId} (h : EAt w wr g o sg so b t l L k) (hap : sg ≠ g ∨ so + l.length ≤ o) (hw : wr.grownBy w1 (some g)) (hw2 : ∀ L', Ob wr g t L' → Ob w1 g t L') (x y z : UInt8) (hq : q = o + 4 * k)
    (hx : l[3 * k]? = some x) (hy : l[3 * k + 1]? = some y) (hz : l[3 * k + 2]? = some z) (d0 d1 d2 d3 : Nat) (e0 : d0 = x.toNat / 4) (e1 : d1 = x.toNat % 4 * 16 + y.toNat / 16) (e2 : d2 = y.toNat % 16 * 4 + z.toNat / 64) (e3 : d3 = z.toNat % 64) {w' : World}
    (hw' : w' = (((w1.setCell ⟨g, q, none⟩ (.int .u8 ((digC d0).toNat : Int))).setCell ⟨g, q + 1, none⟩ (.int .u8 ((digC d1).toNat : Int))).setCell ⟨g, q + 2, none⟩ (.int .u8 ((digC d2).toNat : Int))).setCell ⟨g, q + 3, none⟩ (.int .u8 ((digC d3).toNat : Int))) :
    EAt w w' g o sg so b t l L (k + 1) := by
  have hl : 3 * k + 2 < l.length := (List.getElem?_eq_some_iff.1 hz).1
  have h1 := eat_put4 h hap hw hw2 (digC d0) (digC d1) (digC d2) (digC d3) (by omega) hq (by rw [b64L_len]; omega) hw'
  have e : b64L (l.take (3 * (k + 1))) = b64L (l.take (3 * k)) ++ [digC d0, digC d1, digC d2, digC d3] := by
    rw [take3 l k x y z hx hy hz, b64L_app _ _ (by rw [List.length_take, Nat.min_eq_left (by omega)]; omega), e0, e1, e2, e3]
    rfl
  refine ⟨?_, h1.2.1, h1.2.2.1, h1.2.2.2, h.fit, h.hgb⟩
  rw [e]; exact h1.1

/-- The text's end: nothing is left, one byte, two. -/
theorem eat_done {w wr w1 : World} {b g o sg so k : Nat} {l : List UInt8} {L : List Value} {t : TypeId} (h : EAt w wr g o sg so b t l L k) (hw : w1 = wr) (hk : 3 * k = l.length) : Ob w1 g t (splice L o (Lib.byteCells (b64L l))) ∧ w.grownBy w1 (some g) := by
  subst hw
  have := h.ob
  rw [hk, List.take_length] at this
  exact ⟨this, h.grown⟩
theorem drop_one (l : List UInt8) (k : Nat) (x : UInt8) (hx : l[k]? = some x) (hl : l.length = k + 1) : l = l.take k ++ [x] := by
  have e := List.take_append_drop k l
  have h1 : (l.drop k)[0]? = some x := by rw [List.getElem?_drop]; exact hx
  have h2 : (l.drop k).length = 1 := by rw [List.length_drop]; omega
  generalize l.drop k = r at e h1 h2
  match r with
  | [] => simp at h2
  | [a] => simp at h1; subst h1; exact e.symm
  | _ :: _ :: _ => simp at h2
theorem drop_two (l : List UInt8) (k : Nat) (x y : UInt8) (hx : l[k]? = some x) (hy : l[k + 1]? = some y) (hl : l.length = k + 2) : l = l.take k ++ [x, y] := by
  have e := List.take_append_drop k l
  have h1 : (l.drop k)[0]? = some x := by rw [List.getElem?_drop]; exact hx
  have h3 : (l.drop k)[1]? = some y := by rw [List.getElem?_drop]; exact hy
  have h2 : (l.drop k).length = 2 := by rw [List.length_drop]; omega
  generalize l.drop k = r at e h1 h2 h3
  match r with
  | [] => simp at h2
  | [_] => simp at h2
  | [a, c] => simp at h1 h3; subst h1; subst h3; exact e.symm
  | _ :: _ :: _ :: _ => simp at h2
theorem eat_one {w wr w1 : World} {b g o sg so k q : Nat} {l : List UInt8} {L : List Value} {t : TypeId} (h : EAt w wr g o sg so b t l L k) (hap : sg ≠ g ∨ so + l.length ≤ o) (hw : wr.grownBy w1 (some g)) (hw2 : ∀ L', Ob wr g t L' → Ob w1 g t L') (x : UInt8) (hq : q = o + 4 * k)
    (hx : l[3 * k]? = some x) (hl : l.length = 3 * k + 1) (d0 d1 : Nat) (e0 : d0 = x.toNat / 4) (e1 : d1 = x.toNat % 4 * 16) {w' : World}
    (hw' : w' = (((w1.setCell ⟨g, q, none⟩ (.int .u8 ((digC d0).toNat : Int))).setCell ⟨g, q + 1, none⟩ (.int .u8 ((digC d1).toNat : Int))).setCell ⟨g, q + 2, none⟩ (.int .u8 61)).setCell ⟨g, q + 3, none⟩ (.int .u8 61)) :
    Ob w' g t (splice L o (Lib.byteCells (b64L l))) ∧ w.grownBy w' (some g) := by
  have h1 := eat_put4 h hap hw hw2 (digC d0) (digC d1) 61 61 (by omega) hq (by rw [b64L_len]; omega) hw'
  have e : b64L l = b64L (l.take (3 * k)) ++ [digC d0, digC d1, 61, 61] := by
    have e2 := drop_one l (3 * k) x hx hl
    have e3 : b64L (l.take (3 * k) ++ [x]) = _ := b64L_app _ _ (by rw [List.length_take, Nat.min_eq_left (by omega)]; omega)
    rw [← e2] at e3
    rw [e3, e0, e1]
    rfl
  rw [e]; exact ⟨h1.1, h1.2.1⟩
theorem eat_two {w wr w1 : World} {b g o sg so k q : Nat} {l : List UInt8} {L : List Value} {t : TypeId} (h : EAt w wr g o sg so b t l L k) (hap : sg ≠ g ∨ so + l.length ≤ o) (hw : wr.grownBy w1 (some g)) (hw2 : ∀ L', Ob wr g t L' → Ob w1 g t L') (x y : UInt8) (hq : q = o + 4 * k)
    (hx : l[3 * k]? = some x) (hy : l[3 * k + 1]? = some y) (hl : l.length = 3 * k + 2) (d0 d1 d2 : Nat) (e0 : d0 = x.toNat / 4) (e1 : d1 = x.toNat % 4 * 16 + y.toNat / 16) (e2 : d2 = y.toNat % 16 * 4) {w' : World}
    (hw' : w' = (((w1.setCell ⟨g, q, none⟩ (.int .u8 ((digC d0).toNat : Int))).setCell ⟨g, q + 1, none⟩ (.int .u8 ((digC d1).toNat : Int))).setCell ⟨g, q + 2, none⟩ (.int .u8 ((digC d2).toNat : Int))).setCell ⟨g, q + 3, none⟩ (.int .u8 61)) :
    Ob w' g t (splice L o (Lib.byteCells (b64L l))) ∧ w.grownBy w' (some g) := by
  have h1 := eat_put4 h hap hw hw2 (digC d0) (digC d1) (digC d2) 61 (by omega) hq (by rw [b64L_len]; omega) hw'
  have e : b64L l = b64L (l.take (3 * k)) ++ [digC d0, digC d1, digC d2, 61] := by
    have e4 := drop_two l (3 * k) x y hx hy hl
    have e3 : b64L (l.take (3 * k) ++ [x, y]) = _ := b64L_app _ _ (by rw [List.length_take, Nat.min_eq_left (by omega)]; omega)
    rw [← e4] at e3
    rw [e3, e0, e1, e2]
    rfl
  rw [e]; exact ⟨h1.1, h1.2.1⟩

set_option maxHeartbeats 4000000 in
set_option maxRecDepth 100000 in
theorem Encode_any (b g o dn dcap sg so cap : Nat) (l : List UInt8) (L : List Value) (t : TypeId) (w : World) (he : EncAt w b) (hg : Ob w g t L) (hgb : g ≠ b)
    (hne : l ≠ []) (hl45 : l.length ≤ 1000) (hfit : o + (b64L l).length ≤ L.length) (hdc2 : (b64L l).length < dcap) (hdn : (b64L l).length ≤ dn) (hdc : dn ≤ dcap) (hcap : l.length ≤ cap) (hb : dcap ≤ 1000000)
    (hs : ∀ j x, l[j]? = some x → w.cell? ⟨sg, so + j, none⟩ = some (.int .u8 (x.toNat : Int))) (hap : sg ≠ g ∨ so + l.length ≤ o) :
    Calls Tryd.prog 110 #[.pointer (some ⟨b, 0, none⟩), .slice (some ⟨g, o, none⟩) dn dcap, .slice (some ⟨sg, so, none⟩) l.length cap] w fun e w' => e = .returned (.tuple #[]) ∧ Ob w' g t (splice L o (Lib.byteCells (b64L l))) ∧ w.grownBy w' (some g) := by
  have hl0 : 0 < l.length := List.length_pos_iff.2 hne
  have h0 := eat_start he hg hgb hfit hs
  have H0 := hidF h0
  have HE := hidF he
  have HAP := hidF hap
  have hll := b64L_len l
  obtain ⟨n, hn⟩ : ∃ n, n = l.length := ⟨_, rfl⟩
  rw [← hn] at hl0 hl45 hcap hll ⊢
  have HN := hidF hn
  clear hs hg he h0 hn hap hgb hfit hne
  go_enter Tryd.func110, Tryd.ntmps110
  go_wp2_with (refine wpList_load_at rfl 118 (.tmp 14) rfl b 0 rfl (Lib.strCells digB64) _ (encAt_digs HE.out) Tryd.underlying118 rfl digsLen ?_; intro v15; simp only [Act.put, List.setIfInBounds_toArray, List.set_cons_succ, List.set_cons_zero])

  go_loopw [1, 2] (fun dv sv wr => ∃ (k p q m D C1 C2 : Nat), (m = 0 ∨ p = so + 3 * k) ∧ q = o + 4 * k ∧ m + 3 * k = n ∧ D + 4 * k = dn ∧ C1 + 4 * k = dcap ∧ (m + 2) / 3 * 4 ≤ D ∧ m ≤ C2 ∧ D ≤ C1 ∧ C1 ≤ 1000000 ∧ dv = .slice (some ⟨g, q, none⟩) D C1 ∧ sv = .slice (some ⟨sg, p, none⟩) m C2 ∧ Hid (EAt w wr g o sg so b t l L k)) (fun _ sv _ => lenV sv)
  case atStart => exact ⟨0, so, o, n, dn, dcap, cap, .inr rfl, rfl, by omega, by omega, by omega, by omega, hcap, hdc, hb, rfl, rfl, hidF H0.out⟩
  case round =>
    obtain ⟨k, p, q, m, D, C1, C2, hp0, hq, hm, hD, hCk, hmD, hmC, hDC, hC1, rfl, rfl, hat⟩ := hrel
    by_cases h3 : 3 ≤ m
    · have hp : p = so + 3 * k := hp0.resolve_left (by omega)
      have hC4 : ¬ C1 = 4 := by omega
      have hl : 3 * k + 2 < l.length := by rw [← HN.out]; omega
      obtain ⟨x, hx⟩ : ∃ x, x = l[3 * k] := ⟨_, rfl⟩
      obtain ⟨y, hy⟩ : ∃ y, y = l[3 * k + 1] := ⟨_, rfl⟩
      obtain ⟨z, hz⟩ : ∃ z, z = l[3 * k + 2] := ⟨_, rfl⟩
      have s0 := hat.out.src (3 * k) x (by rw [hx, List.getElem?_eq_getElem])
      have s1 := hat.out.src (3 * k + 1) y (by rw [hy, List.getElem?_eq_getElem])
      have s2 := hat.out.src (3 * k + 2) z (by rw [hz, List.getElem?_eq_getElem])
      rw [← hp] at s0
      rw [← Nat.add_assoc, ← hp] at s1 s2
      have k0 : (x.toNat : Int) < 256 := by have := x.toNat_lt; omega
      have k1 : (y.toNat : Int) < 256 := by have := y.toNat_lt; omega
      have k2 : (z.toNat : Int) < 256 := by have := z.toNat_lt; omega
      have hv := val3 x y z
      have hVl : x.toNat * 65536 + y.toNat * 256 + z.toNat < 16777216 := by have := x.toNat_lt; have := y.toNat_lt; have := z.toNat_lt; omega
      obtain ⟨V, hV⟩ : ∃ V, V = x.toNat * 65536 + y.toNat * 256 + z.toNat := ⟨_, rfl⟩
      rw [← hV] at hv hVl
      obtain ⟨d0, d1, d2, d3, e0, e1, e2, e3, l0, l1, l2, l3, b0, b1, b2, b3⟩ := dig_facts V hVl
      have i0 := encAt_dig hat.out.enc d0 l0
      have i1 := encAt_dig hat.out.enc d1 l1
      have i2 := encAt_dig hat.out.enc d2 l2
      have i3 := encAt_dig hat.out.enc d3 l3
      have hgb : ¬ g = b := hat.out.hgb
      have hbg : ¬ b = g := fun e => hgb e.symm
      have HV := hidF hV
      have HX := hidF hx
      have HY := hidF hy
      have HZ := hidF hz
      have HD := hidF (And.intro e0 (And.intro e1 (And.intro e2 e3)))
      have HK := hidF (And.intro hp (And.intro hq (And.intro hm (And.intro hD (And.intro hl hCk)))))
      have m3 : (3 : Int) ≤ (m : Int) := by omega
      have hob := hat.out.ob
      have hcell := fun j (hj : j < L.length) => (⟨_, hob.cell j _ (List.getElem?_eq_getElem (by rw [length_splice _ _ _ (by have := hat.out.fit; rw [bc_len, b64L_len, List.length_take]; rw [b64L_len] at this; omega)]; exact hj))⟩ : ∃ v, wr.cell? ⟨g, j, none⟩ = some v)
      have hLl : q + 3 < L.length := by have := hat.out.fit; rw [hll] at this; omega
      obtain ⟨x0, c0⟩ := hcell q (by omega)
      obtain ⟨x1, c1⟩ := hcell (q + 1) (by omega)
      obtain ⟨x2, c2⟩ := hcell (q + 2) (by omega)
      obtain ⟨x3, c3⟩ := hcell (q + 3) (by omega)
      have f0 := hob.free q
      have f1 := hob.free (q + 1)
      have f2 := hob.free (q + 2)
      have f3 := hob.free (q + 3)
      clear hcell hob hx hy hz hV e0 e1 e2 e3 hp hq hm hD hCk hp0
      go_wp2_with fail
      go_quiet (fail)
      have c0 : (wr.drewN nq).cell? ⟨g, q, none⟩ = some x0 := c0
      have c1 : (wr.drewN nq).cell? ⟨g, q + 1, none⟩ = some x1 := c1
      have c2 : (wr.drewN nq).cell? ⟨g, q + 2, none⟩ = some x2 := c2
      have c3 : (wr.drewN nq).cell? ⟨g, q + 3, none⟩ = some x3 := c3
      have f0 : (wr.drewN nq).frozen? ⟨g, q, none⟩ = false := f0
      have f1 : (wr.drewN nq).frozen? ⟨g, q + 1, none⟩ = false := f1
      have f2 : (wr.drewN nq).frozen? ⟨g, q + 2, none⟩ = false := f2
      have f3 : (wr.drewN nq).frozen? ⟨g, q + 3, none⟩ = false := f3
      have i0 : (wr.drewN nq).cell? ⟨b, d0, none⟩ = _ := i0
      have i1 : (wr.drewN nq).cell? ⟨b, d1, none⟩ = _ := i1
      have i2 : (wr.drewN nq).cell? ⟨b, d2, none⟩ = _ := i2
      have i3 : (wr.drewN nq).cell? ⟨b, d3, none⟩ = _ := i3
      have D0 : (0 : Int) < (D : Int) := by omega
      have D1 : (1 : Int) < (D : Int) := by omega
      have D2 : (2 : Int) < (D : Int) := by omega
      have D3 : (3 : Int) < (D : Int) := by omega
      go_wp2_with fail
      obtain ⟨hp, hq, hm, hD, hl, hCk⟩ := HK.out
      obtain ⟨e0, e1, e2, e3⟩ := HD.out
      have hx := HX.out
      have hy := HY.out
      have hz := HZ.out
      have hV := HV.out
      have r0 := x.toNat_lt
      have r1 := y.toNat_lt
      have r2 := z.toNat_lt
      have hfin := hidF (eat_next hat.out HAP.out (grown_drewN wr nq _) (fun _ h => h.drewN nq) x y z hq (by rw [hx, List.getElem?_eq_getElem]) (by rw [hy, List.getElem?_eq_getElem]) (by rw [hz, List.getElem?_eq_getElem]) d0 d1 d2 d3 (by omega) (by omega) (by omega) (by omega) rfl)
      clear hx hy hz hV
      by_cases hC3 : C2 = 3
      · refine ⟨⟨k + 1, p, q + 4, m - 3, D - 4, C1 - 4, C2 - 3, .inl (by omega), by omega, by omega, by omega, by omega, by omega, by omega, by omega, by omega, rfl, by rw [if_pos hC3], hfin⟩, ?_⟩
        simp [lenV]; omega
      · refine ⟨⟨k + 1, p + 3, q + 4, m - 3, D - 4, C1 - 4, C2 - 3, .inr (by omega), by omega, by omega, by omega, by omega, by omega, by omega, by omega, by omega, rfl, by rw [if_neg hC3], hfin⟩, ?_⟩
        simp [lenV]; omega
    · rcases (show m = 0 ∨ m = 1 ∨ m = 2 by omega) with hm0 | hm1 | hm2
      · subst hm0
        have hfin := hidF (eat_done hat.out rfl (by rw [← HN.out]; omega))
        go_wp2_with fail
        try simp only [Exit.inBlock, Exit.then]
        refine bodyPost_ret (results_none rfl _ _ _) rfl ?_
        exact ⟨rfl, hfin.out⟩
      · subst hm1
        have hp : p = so + 3 * k := hp0.resolve_left (by omega)
        clear hp0
        have hlen : l.length = 3 * k + 1 := by rw [← HN.out]; omega
        obtain ⟨x, hx⟩ : ∃ x, l[3 * k]? = some x := ⟨_, List.getElem?_eq_getElem (by omega)⟩
        have s0 := hat.out.src (3 * k) x hx
        rw [← hp] at s0
        have k0 : (x.toNat : Int) < 256 := by have := x.toNat_lt; omega
        obtain ⟨V, hV⟩ : ∃ V, V = x.toNat * 65536 := ⟨_, rfl⟩
        have hVl : V < 16777216 := by have := x.toNat_lt; omega
        have hv : (x.toNat : Int) * 65536 = (V : Int) := by omega
        obtain ⟨d0, d1, d2, d3, e0, e1, e2, e3, l0, l1, l2, l3, b0, b1, b2, b3⟩ := dig_facts V hVl
        have i0 := encAt_dig hat.out.enc d0 l0
        have i1 := encAt_dig hat.out.enc d1 l1
        have hgb : ¬ g = b := hat.out.hgb
        have hbg : ¬ b = g := fun e => hgb e.symm
        have hp0 := encAt_pad hat.out.enc
        have hob := hat.out.ob
        have hLl : q + 3 < L.length := by have := hat.out.fit; rw [hll] at this; omega
        have hcell := fun j (hj : j < L.length) => (⟨_, hob.cell j _ (List.getElem?_eq_getElem (by rw [length_splice _ _ _ (by have := hat.out.fit; rw [bc_len, b64L_len, List.length_take]; rw [b64L_len] at this; omega)]; exact hj))⟩ : ∃ v, wr.cell? ⟨g, j, none⟩ = some v)
        obtain ⟨x0, c0⟩ := hcell q (by omega)
        obtain ⟨x1, c1⟩ := hcell (q + 1) (by omega)
        obtain ⟨x2, c2⟩ := hcell (q + 2) (by omega)
        obtain ⟨x3, c3⟩ := hcell (q + 3) (by omega)
        have f0 := hob.free q
        have f1 := hob.free (q + 1)
        have f2 := hob.free (q + 2)
        have f3 := hob.free (q + 3)
        have D0 : (0 : Int) < (D : Int) := by omega
        have D1 : (1 : Int) < (D : Int) := by omega
        have D2 : (2 : Int) < (D : Int) := by omega
        have D3 : (3 : Int) < (D : Int) := by omega
        have r0 := x.toNat_lt
        have hfin := hidF (fun w' hw' => eat_one (w' := w') hat.out HAP.out (grown_refl wr _) (fun _ h => h) x hq hx hlen d0 d1 (by omega) (by omega) hw')
        clear hcell hob hx e0 e1 e2 e3 hV hq hp hlen l2 l3 b2 b3 hm hD hCk
        go_wp2_with fail
        go_end0
        exact ⟨rfl, hfin.out _ rfl⟩
      · subst hm2
        have hp : p = so + 3 * k := hp0.resolve_left (by omega)
        clear hp0
        have hlen : l.length = 3 * k + 2 := by rw [← HN.out]; omega
        obtain ⟨x, hx⟩ : ∃ x, l[3 * k]? = some x := ⟨_, List.getElem?_eq_getElem (by omega)⟩
        obtain ⟨y, hy⟩ : ∃ y, l[3 * k + 1]? = some y := ⟨_, List.getElem?_eq_getElem (by omega)⟩
        have s0 := hat.out.src (3 * k) x hx
        have s1 := hat.out.src (3 * k + 1) y hy
        rw [← hp] at s0
        rw [← Nat.add_assoc, ← hp] at s1
        have k0 : (x.toNat : Int) < 256 := by have := x.toNat_lt; omega
        have k1 : (y.toNat : Int) < 256 := by have := y.toNat_lt; omega
        have hv := val2 x y
        obtain ⟨V, hV⟩ : ∃ V, V = x.toNat * 65536 + y.toNat * 256 := ⟨_, rfl⟩
        have hVl : V < 16777216 := by have := x.toNat_lt; have := y.toNat_lt; omega
        rw [← hV] at hv
        obtain ⟨d0, d1, d2, d3, e0, e1, e2, e3, l0, l1, l2, l3, b0, b1, b2, b3⟩ := dig_facts V hVl
        have i0 := encAt_dig hat.out.enc d0 l0
        have i1 := encAt_dig hat.out.enc d1 l1
        have i2 := encAt_dig hat.out.enc d2 l2
        have hgb : ¬ g = b := hat.out.hgb
        have hbg : ¬ b = g := fun e => hgb e.symm
        have hp0 := encAt_pad hat.out.enc
        have hob := hat.out.ob
        have hLl : q + 3 < L.length := by have := hat.out.fit; rw [hll] at this; omega
        have hcell := fun j (hj : j < L.length) => (⟨_, hob.cell j _ (List.getElem?_eq_getElem (by rw [length_splice _ _ _ (by have := hat.out.fit; rw [bc_len, b64L_len, List.length_take]; rw [b64L_len] at this; omega)]; exact hj))⟩ : ∃ v, wr.cell? ⟨g, j, none⟩ = some v)
        obtain ⟨x0, c0⟩ := hcell q (by omega)
        obtain ⟨x1, c1⟩ := hcell (q + 1) (by omega)
        obtain ⟨x2, c2⟩ := hcell (q + 2) (by omega)
        obtain ⟨x3, c3⟩ := hcell (q + 3) (by omega)
        have f0 := hob.free q
        have f1 := hob.free (q + 1)
        have f2 := hob.free (q + 2)
        have f3 := hob.free (q + 3)
        have D0 : (0 : Int) < (D : Int) := by omega
        have D1 : (1 : Int) < (D : Int) := by omega
        have D2 : (2 : Int) < (D : Int) := by omega
        have D3 : (3 : Int) < (D : Int) := by omega
        have r0 := x.toNat_lt
        have r1 := y.toNat_lt
        have hfin := hidF (fun n w' hw' => eat_two (w' := w') hat.out HAP.out (grown_drewN wr n _) (fun _ h => h.drewN n) x y hq hx hy hlen d0 d1 d2 (by omega) (by omega) (by omega) hw')
        clear hcell hob hx hy e0 e1 e2 e3 hV hq hp hlen l3 b3 hm hD hCk
        go_wp2_with fail
        go_quiet (fail)
        have c0 : (wr.drewN nq).cell? ⟨g, q, none⟩ = some x0 := c0
        have c1 : (wr.drewN nq).cell? ⟨g, q + 1, none⟩ = some x1 := c1
        have c2 : (wr.drewN nq).cell? ⟨g, q + 2, none⟩ = some x2 := c2
        have c3 : (wr.drewN nq).cell? ⟨g, q + 3, none⟩ = some x3 := c3
        have f0 : (wr.drewN nq).frozen? ⟨g, q, none⟩ = false := f0
        have f1 : (wr.drewN nq).frozen? ⟨g, q + 1, none⟩ = false := f1
        have f2 : (wr.drewN nq).frozen? ⟨g, q + 2, none⟩ = false := f2
        have f3 : (wr.drewN nq).frozen? ⟨g, q + 3, none⟩ = false := f3
        have i0 : (wr.drewN nq).cell? ⟨b, d0, none⟩ = _ := i0
        have i1 : (wr.drewN nq).cell? ⟨b, d1, none⟩ = _ := i1
        have i2 : (wr.drewN nq).cell? ⟨b, d2, none⟩ = _ := i2
        have hp0 : (wr.drewN nq).cell? ⟨b, 320, none⟩ = _ := hp0
        go_wp2_with fail
        go_end0
        exact ⟨rfl, hfin.out nq _ rfl⟩
end Go.Proofs.YtbpoecfbcmdeeaaDoor
