/- append with the place where its row lies; textproto's reader with its buffer. -/
import Derived.Test.YtddnjdapdcopgaaDoorTrimW
import Derived.Maps.AppendAt
import Derived.Deep.RegionLaw
namespace Go.Proofs.YtddnjdapdcopgaaDoor
open Go.RowKit

theorem OwnB.zero {B n cap : Nat} {a : Option Addr} {l : List UInt8} {w : World} (h : OwnB B (.slice a n cap) l w) : OwnB B (.slice a 0 cap) [] w := by
  refine ⟨rfl, ?_⟩
  rcases h.2 with ⟨h0, _⟩ | ⟨g, c2, cur, h1, hB, hg, hn, hc, hsz, htk⟩
  · injection h0 with h1 h2 h3
    subst h1; subst h3
    exact .inl ⟨rfl, rfl⟩
  · injection h1 with h1 h2 h3
    subst h1; subst h3
    exact .inr ⟨g, cap, cur, rfl, hB, hg, Nat.zero_le _, hc, hsz, rfl⟩

theorem OwnB.form3 {B : Nat} {v : Value} {l : List UInt8} {w : World} (h : OwnB B v l w) : ∃ a n c, v = .slice a n c := by
  obtain ⟨a, c, h⟩ := h.slice
  exact ⟨a, _, c, h⟩
/-- append(line, l...): where the row lies then. -/
theorem wp_append_at {o : Oper} {a : Act} {K : Act → World → Prop} {Q : Exit → Act → World → Prop} (s x : Operand)
    (ho : o.op = .call { callee := .builtin .append, args := #[s, x], argTypes := #[22, 22] })
    (B : Nat) (v : Value) (l t : List UInt8) (ad : Addr) (n cap : Nat) (w0 : World) (hs : a.eval s = v) (hown : OwnB B v l w0) (hx : a.eval x = .slice (some ad) n cap) (ht : t.length = n)
    (hc : ∀ j c, t[j]? = some c → w0.cell? (ad.add j) = some (.int .u8 (c.toNat : Int))) (hlen : l.length + n ≤ 100000000000) (hB : B ≤ w0.heap.size)
    (h : ∀ v' w', OwnB B v' (l ++ t) w' → Hid (w0.grownBy w' v.ownBlock) → Hid (v'.ownBlock = v.ownBlock ∨ v'.ownBlock = some w0.heap.size) → K (a.put o.dst v') w') : o.wp Tryd.prog a w0 K Q := by
  obtain ⟨i0, hi, hz0, hz1, hz2⟩ := info_parts infoByteB
  subst ht
  obtain ⟨v', w', hr, h2, h3, _, h5⟩ := run_append_own_at (P := Tryd.prog) w0 B 22 o.type 5 i0 (.int .u8 0) 1 1 Tryd.underlying22 hi hz0 hz1 hz2 rfl (by decide) v l.length (Lib.byteCells l) hown ad t.length cap (Lib.byteCells t) (by rw [bc_len]; omega) (fun j u hj => by
    unfold Lib.byteCells at hj
    rw [List.getElem?_map] at hj
    cases ht : t[j]? with
    | none => rw [ht] at hj; cases hj
    | some c =>
      rw [ht] at hj
      obtain rfl := Option.some.inj hj
      exact hc j c ht) (fun u hu => by
    unfold Lib.byteCells at hu
    obtain ⟨c, _, rfl⟩ := List.mem_map.1 hu
    rfl) (by unfold maxLen; omega) (by omega) hB
  unfold Oper.wp execOp
  simp only [ho, resolve, invoke, builtin, Sem.run_bind, Sem.run_pure, Result.andThen_ok, List.map_toArray, List.map_cons, List.map_nil, hs, hx, hr]
  refine h v' w' ?_ h3 h5
  unfold OwnB
  have e : Lib.byteCells (l ++ t) = Lib.byteCells l ++ Lib.byteCells t := by simp [Lib.byteCells]
  rw [e, List.length_append]
  exact h2
theorem step_append_at {ops : Array Oper} {o : Oper} {a : Act} {K : Act → World → Prop} {Q : Exit → Act → World → Prop} {E : Prop} (hgd : o.guard = none) (s x : Operand)
    (ho : o.op = .call { callee := .builtin .append, args := #[s, x], argTypes := #[22, 22] })
    (B : Nat) (v : Value) (l t : List UInt8) (ad : Addr) (n cap : Nat) (w0 : World) (hs : a.eval s = v) (hown : OwnB B v l w0) (hx : a.eval x = .slice (some ad) n cap) (ht : t.length = n)
    (hc : ∀ j c, t[j]? = some c → w0.cell? (ad.add j) = some (.int .u8 (c.toNat : Int))) (hlen : l.length + n ≤ 100000000000) (hB : B ≤ w0.heap.size)
    (h : ∀ v' w', OwnB B v' (l ++ t) w' → Hid (w0.grownBy w' v.ownBlock) → Hid (v'.ownBlock = v.ownBlock ∨ v'.ownBlock = some w0.heap.size) → K (a.put o.dst v') w') :
    if Region.wanted o (yielded ops a.tmps) = true then Oper.wp Tryd.prog o a w0 K Q else E := by
  have hw : Region.wanted o (yielded ops a.tmps) = true := by simp [Region.wanted, hgd]
  rw [if_pos hw]
  exact wp_append_at s x ho B v l t ad n cap w0 hs hown hx ht hc hlen hB h
theorem wpList_append_at {ops : Array Oper} {rest : List Oper} {o : Oper} {a : Act} {Q : Exit → Act → World → Prop} (hgd : o.guard = none) (s x : Operand)
    (ho : o.op = .call { callee := .builtin .append, args := #[s, x], argTypes := #[22, 22] })
    (B : Nat) (v : Value) (l t : List UInt8) (ad : Addr) (n cap : Nat) (w0 : World) (hs : a.eval s = v) (hown : OwnB B v l w0) (hx : a.eval x = .slice (some ad) n cap) (ht : t.length = n)
    (hc : ∀ j c, t[j]? = some c → w0.cell? (ad.add j) = some (.int .u8 (c.toNat : Int))) (hlen : l.length + n ≤ 100000000000) (hB : B ≤ w0.heap.size)
    (h : ∀ v' w', OwnB B v' (l ++ t) w' → Hid (w0.grownBy w' v.ownBlock) → Hid (v'.ownBlock = v.ownBlock ∨ v'.ownBlock = some w0.heap.size) → wpList Tryd.prog ops Q rest (a.put o.dst v') w') : wpList Tryd.prog ops Q (o :: rest) a w0 :=
  wpList_plain hgd fun _ hK => wp_append_at s x ho B v l t ad n cap w0 hs hown hx ht hc hlen hB fun v' w' h1 h2 h3 => hK _ _ (h v' w' h1 h2 h3)

/-- textproto's reader at T; its buffer bv holds l, in a row from B on. -/
structure TpAt (T B : Nat) (c : BR) (bv : Value) (l : List UInt8) (w : World) : Prop where
  ob : Ob w T 72 (tpS c bv)
  own : OwnB B bv l w
  lo : ∀ x, x ∈ c.all → x < B
  tn : T ∉ c.all
  tb : T < B
  sz : B ≤ w.heap.size
theorem TpAt.tno {T B : Nat} {c : BR} {bv : Value} {l : List UInt8} {w : World} (h : TpAt T B c bv l w) : T ∉ c.own := fun hx => h.tn (own_all hx)
/-- Nothing but the reader's own blocks has changed. -/
theorem TpAt.only {T B : Nat} {c : BR} {bv : Value} {l : List UInt8} {w w' : World} {L : List Nat} (h : TpAt T B c bv l w) (k : Only L w w') (hT : T ∉ L) (hL : ∀ x, x ∈ L → x < B) : TpAt T B c bv l w' :=
  ⟨h.ob.only k hT, h.own.only k hL, h.lo, h.tn, h.tb, Nat.le_trans h.sz k.size⟩
theorem TpAt.own' {T B : Nat} {c : BR} {bv : Value} {l : List UInt8} {w w' : World} (h : TpAt T B c bv l w) (k : Only c.own w w') : TpAt T B c bv l w' :=
  h.only k h.tno (fun x hx => h.lo x (own_all hx))
/-- Another buffer, stored. -/
theorem TpAt.put {T B : Nat} {c : BR} {bv v' : Value} {l l' : List UInt8} {w w' : World} (h : TpAt T B c bv l w) (hg : w.grownBy w' bv.ownBlock) (ho : OwnB B v' l' w') : TpAt T B c v' l' (w'.setCell ⟨T, 2, none⟩ v') := by
  have k := Only.of_row hg
  have hT : T ∉ bv.ownBlock.toList := fun hx => by have := h.own.ownLt T (Option.mem_toList.1 hx); have := h.tb; omega
  refine ⟨(h.ob.only k hT).set 2 v', ho.only (Only.set w' T 2 v') (fun x hx => by obtain rfl := List.mem_singleton.1 hx; exact h.tb), h.lo, h.tn, h.tb, ?_⟩
  exact Nat.le_trans h.sz (Nat.le_trans k.size (Only.set w' T 2 v').size)
theorem TpAt.bufQ {T B : Nat} {c : BR} {bv : Value} {l st : List UInt8} {w w' : World} (h : TpAt T B c bv l w) (hq : BufQ c st w) (hg : w.grownBy w' bv.ownBlock) (v' : Value) : BufQ c st (w'.setCell ⟨T, 2, none⟩ v') :=
  (bufQ_grown hq h.lo h.own hg).only (Only.set w' T 2 v') (fun x hx => by obtain rfl := List.mem_singleton.1 hx; exact h.tn)

theorem ownBlock_len (a : Option Addr) (n m c : Nat) : (Value.slice a n c).ownBlock = (Value.slice a m c).ownBlock := by
  unfold Value.ownBlock
  cases a <;> rfl
/-- Where the buffer's row lies: where it lay at the beginning, or in new memory. -/
def Wh (bv0 : Value) (N : Nat) (bv : Value) : Prop := bv.ownBlock = bv0.ownBlock ∨ ∃ g, bv.ownBlock = some g ∧ N ≤ g
/-- An append to the buffer, stored. -/
theorem tp_put {T B : Nat} {c : BR} {bv0 bv v' : Value} {acc acc' t : List UInt8} {w w1 w2 : World} {ob : Option Nat} (hT : TpAt T B c bv acc w1) (hO : Only (T :: c.own ++ bv0.ownBlock.toList) w w1) (hw : Wh bv0 w.heap.size bv) (hq : BufQ c t w1) (hg : w1.grownBy w2 ob) (hob : ob = bv.ownBlock) (ho : OwnB B v' acc' w2)
    (hwh : v'.ownBlock = ob ∨ v'.ownBlock = some w1.heap.size) : TpAt T B c v' acc' (w2.setCell ⟨T, 2, none⟩ v') ∧ Only (T :: c.own ++ bv0.ownBlock.toList) w (w2.setCell ⟨T, 2, none⟩ v') ∧ Wh bv0 w.heap.size v' ∧ BufQ c t (w2.setCell ⟨T, 2, none⟩ v') := by
  subst hob
  refine ⟨hT.put hg ho, (hO.fresh (Only.of_row hg) (fun x hx => ?_)).trans ((Only.set w2 T 2 v').mono (fun x hx => by obtain rfl := List.mem_singleton.1 hx; simp)), ?_, hT.bufQ hq hg v'⟩
  · have hx2 := Option.mem_toList.1 hx
    rcases hw with h | ⟨g, h, hg2⟩
    · right
      rw [h] at hx2
      simp [hx2]
    · left
      rw [h] at hx2
      obtain rfl := Option.some.inj hx2
      exact hg2
  · rcases hwh with h | h
    · unfold Wh; rw [h]; exact hw
    · exact .inr ⟨_, h, hO.size⟩
end Go.Proofs.YtddnjdapdcopgaaDoor
