/- textproto's closeDot and readLineSlice: the walks. -/
import Derived.Test.YtddnjdapdcopgaaDoorReadLine
import Derived.Test.YtddnjdapdcopgaaDoorBytes
namespace Go.Proofs.YtddnjdapdcopgaaDoor
open Go.RowKit

theorem OwnB.only {B : Nat} {v : Value} {l : List UInt8} {w w' : World} {L : List Nat} (h : OwnB B v l w) (k : Only L w w') (hL : ∀ x, x ∈ L → x < B) : OwnB B v l w' := by
  refine ⟨h.1, ?_⟩
  rcases h.2 with h0 | ⟨g, cap, cur, rfl, hB, hg, rest⟩
  · exact .inl h0
  · exact .inr ⟨g, cap, cur, rfl, hB, (k.kept g (Array.getElem?_eq_some_iff.1 hg).1 (fun e => by have := hL g e; omega)).trans hg, rest⟩
theorem OwnB.ownLt {B : Nat} {v : Value} {l : List UInt8} {w : World} (h : OwnB B v l w) : ∀ k, v.ownBlock = some k → B ≤ k := fun k hk => (World.ownsRow.lt h k hk).1

/-- append(line, l...) -/
theorem wpList_append_many {ops : Array Oper} {rest : List Oper} {o : Oper} {a : Act} {Q : Exit → Act → World → Prop} (hgd : o.guard = none) (s x : Operand)
    (ho : o.op = .call { callee := .builtin .append, args := #[s, x], argTypes := #[22, 22] })
    (B : Nat) (v : Value) (l t : List UInt8) (ad : Addr) (n cap : Nat) (w0 : World) (hs : a.eval s = v) (hown : OwnB B v l w0) (hx : a.eval x = .slice (some ad) n cap) (ht : t.length = n)
    (hc : ∀ j c, t[j]? = some c → w0.cell? (ad.add j) = some (.int .u8 (c.toNat : Int))) (hlen : l.length + n ≤ 100000000000) (hB : B ≤ w0.heap.size)
    (h : ∀ v' w', OwnB B v' (l ++ t) w' → Hid (w0.grownBy w' v.ownBlock) → wpList Tryd.prog ops Q rest (a.put o.dst v') w') : wpList Tryd.prog ops Q (o :: rest) a w0 := by
  obtain ⟨i0, hi, hz0, hz1, hz2⟩ := info_parts infoByteB
  subst ht
  refine wpList_append_own _ hgd s x 22 ho B 5 i0 (.int .u8 0) 1 1 Tryd.underlying22 hi hz0 hz1 hz2 rfl (by decide) v l.length (Lib.byteCells l) hs hown ad t.length cap (Lib.byteCells t) hx (by rw [bc_len]; omega) ?_ ?_ ?_ ?_ ?_ ?_
  · intro j u hj
    unfold Lib.byteCells at hj
    rw [List.getElem?_map] at hj
    cases ht : t[j]? with
    | none => rw [ht] at hj; cases hj
    | some c =>
      rw [ht] at hj
      obtain rfl := Option.some.inj hj
      exact hc j c ht
  · intro u hu
    unfold Lib.byteCells at hu
    obtain ⟨c, _, rfl⟩ := List.mem_map.1 hu
    rfl
  · unfold maxLen; omega
  · omega
  · exact hB
  · intro v' w' ho' hg' _
    refine h v' w' ?_ hg'
    unfold OwnB
    have e : Lib.byteCells (l ++ t) = Lib.byteCells l ++ Lib.byteCells t := by simp [Lib.byteCells]
    rw [e, List.length_append]
    exact ho'

/-- The cells of textproto's reader. -/
def tpS (c : BR) (bv : Value) : List Value := [.pointer (some ⟨c.R, 0, none⟩), .pointer none, bv]

theorem closeDot_any (T : Nat) (c : BR) (bv : Value) (w : World) (h : Ob w T 72 (tpS c bv)) :
    Calls Tryd.prog 41 #[.pointer (some ⟨T, 0, none⟩)] w fun e w' => e = .returned (.tuple #[]) ∧ w = w' := by
  have q1 := h.cell 1 _ rfl
  clear h
  go_enter Tryd.func41, Tryd.ntmps41
  go_wp2_with fail
  refine bodyPost_ret (results_none rfl _ _ _) rfl ?_
  exact ⟨rfl, rfl⟩

/-- A slice of bytes against nil. -/
theorem eql_sl_nil (W : World) (a : Option Addr) (l c : Nat) : (binOp .eql 22 (.slice a l c) (.slice none 0 0)).run Tryd.prog W = .ok (.bool a.isNone) W :=
  Lib.run_eql_slice_nil (P := Tryd.prog) W 22 5 a l c 0 0 Tryd.underlying22

/-- The slice v holds the bytes l, in block b. -/
def SlAt (v : Value) (l : List UInt8) (b : Nat) (w : World) : Prop := ∃ o cap, v = .slice (some ⟨b, o, none⟩) l.length cap ∧ l.length ≤ cap ∧ ∀ j x, l[j]? = some x → w.cell? ⟨b, o + j, none⟩ = some (.int .u8 (x.toNat : Int))

/-- What readLineSlice hands back: the end, or a line. -/
def LineOut (c : BR) (st : List UInt8) (w : World) (e : Ending) (w' : World) : Prop := Only c.own w w' ∧
  ((brk st = none ∧ e = .returned (.tuple #[.slice none 0 0, eofV c.eof]) ∧ BufQ c [] w') ∨
   (∃ l t v b, BufQ c t w' ∧ SlAt v l b w' ∧ (b = c.F ∨ w.heap.size ≤ b) ∧ e = .returned (.tuple #[v, .nilIface]) ∧ LineR st l t))

/-- Where it stands: acc has been read. -/
def RlRel (c : BR) (st : List UInt8) (w : World) (g : Nat) (line : Value) (wr : World) : Prop :=
  ∃ acc st', OwnB w.heap.size line acc wr ∧ Only c.own w wr ∧ BufQ c st' wr ∧ st = acc ++ st' ∧ 10 ∉ acc ∧ (acc.getLast? = some 13 → st'.head? = some 13) ∧ g = st'.length ∧ (acc = [] → line = .slice none 0 0)

theorem BufQ.lts {c : BR} {st : List UInt8} {w : World} (h : BufQ c st w) : ∀ x, x ∈ c.all → x < w.heap.size := by
  obtain ⟨bf, r, wi, i, lb, ls, h, _⟩ := h
  exact h.lts
theorem own_all {c : BR} {x : Nat} (h : x ∈ c.own) : x ∈ c.all := by
  simp only [BR.own, BR.all, List.mem_cons, List.not_mem_nil, or_false] at h ⊢
  rcases h with h | h | h <;> simp [h]
end Go.Proofs.YtddnjdapdcopgaaDoor
