/- strings.Builder's writers over this program, with what they leave alone: each block that is neither the builder nor its row. -/
import Derived.Test.YtbpoecfbcmdeeaaDoorBldMore
import Derived.Test.YtbpoecfbcmdeeaaDoorBytes2
namespace Go.Proofs.YtbpoecfbcmdeeaaDoor
open Go.RowKit

/-- Block k is neither the builder at b nor the row of its bytes. -/
def Apart (w : World) (b k : Nat) : Prop := k ≠ b ∧ ∀ v, w.cell? ⟨b, 1, none⟩ = some v → v.ownBlock ≠ some k
/-- What writing to the builder at b does. -/
structure BStep (b : Nat) (w w' : World) : Prop where
  os : w'.os = w.os
  tape : w'.tape = w.tape
  output : w'.output = w.output
  size : w.heap.size ≤ w'.heap.size
  kept : ∀ k, k < w.heap.size → Apart w b k → w'.heap[k]? = w.heap[k]? ∧ Apart w' b k

theorem BStep.refl (b : Nat) (w : World) : BStep b w w := ⟨rfl, rfl, rfl, Nat.le_refl _, fun _ _ h => ⟨rfl, h⟩⟩
theorem BStep.trans {b : Nat} {w w1 w2 : World} (h : BStep b w w1) (g : BStep b w1 w2) : BStep b w w2 :=
  ⟨g.os.trans h.os, g.tape.trans h.tape, g.output.trans h.output, Nat.le_trans h.size g.size, fun k hk ha => by
    obtain ⟨h1, h2⟩ := h.kept k hk ha
    obtain ⟨g1, g2⟩ := g.kept k (Nat.lt_of_lt_of_le hk h.size) h2
    exact ⟨g1.trans h1, g2⟩⟩
theorem BStep.of_below {b : Nat} {w w' : World} (h : Below w.heap.size w w') (hb : b < w.heap.size) : BStep b w w' :=
  ⟨h.os, h.tape, h.output, h.size, fun k hk ha => ⟨h.block k hk, ha.1, fun v hv => ha.2 v (by rw [← h.cell (p := ⟨b, 1, none⟩) hb]; exact hv)⟩⟩
theorem BStep.below {B b : Nat} {w w' : World} (h : BStep b w w') (ha : ∀ k, k < B → Apart w b k) (hB : B ≤ w.heap.size) : Below B w w' :=
  ⟨h.os, h.tape, h.output, h.size, fun k hk => (h.kept k (by omega) (ha k hk)).1⟩
theorem BStep.cell {b k j : Nat} {v : Value} {w w' : World} (h : BStep b w w') (ha : Apart w b k) (hc : w.cell? ⟨k, j, none⟩ = some v) : w'.cell? ⟨k, j, none⟩ = some v :=
  (World.cell?_of_block (h.kept k (block_lt_of_cell hc) ha).1).trans hc

def IsB (b : Nat) (bs : List UInt8) (w : World) : Prop := Lib.IsBuilderF 64 5 0 b (Lib.byteCells bs) w
def IsBU (b : Nat) (bs : List UInt8) (w : World) : Prop := Lib.BuilderAtF 64 5 0 b (.pointer (some ⟨b, 0, none⟩)) (Lib.byteCells bs) w
theorem IsBU.is {b : Nat} {bs : List UInt8} {w : World} (h : IsBU b bs w) : IsB b bs w := .inr h
theorem builderAt_below {p : Value} {b : Nat} {bs : List Value} {w w' : World} (h : Lib.BuilderAtF 64 5 0 b p bs w) (hb : Below w.heap.size w w') : Lib.BuilderAtF 64 5 0 b p bs w' := by
  have hlt := h.lt
  obtain ⟨hB, v, hbk, hown, hne⟩ := h
  exact ⟨hB, v, (hb.block b hlt).trans hbk, hown.kept (grown_below hb (Nat.le_refl _) none) (by cases hv : v.ownBlock <;> simp), hne⟩
theorem IsB.below {b : Nat} {bs : List UInt8} {w w' : World} (h : IsB b bs w) (hb : Below w.heap.size w w') : IsB b bs w' :=
  h.elim (fun x => .inl (builderAt_below x hb)) (fun x => .inr (builderAt_below x hb))
theorem IsB.lt {b : Nat} {bs : List UInt8} {w : World} (h : IsB b bs w) : b < w.heap.size := h.elim (fun x => x.lt) (fun x => x.lt)

/-- Where the bytes lie behind an append. -/
theorem append_where {P : Program} (w : World) (t ty e : TypeId) (i : TypeInfo) (z : Value) (size bytes : Nat) (ht : P.underlying t = some (.slice e)) (hi : P.info? e = some i) (hz : i.zero = some z)
    (hsize : i.size = size) (hby : i.bytes = bytes) (hzs : z.cells.size = size) (hsz : 0 < size)
    (v : Value) (n : Nat) (xs : List Value) (hown : w.ownsRowF 0 e size v n xs)
    (a : Addr) (m c : Nat) (news : List Value) (hl : news.length = m * size) (hnews : ∀ j u, news[j]? = some u → w.cell? (a.add j) = some u) (h1 : ∀ u ∈ news, u.oneCell' = true)
    (h63 : n + m ≤ maxLen) (hbytes : (n + m) * bytes ≤ 140737488355328) (v' : Value) (w' : World)
    (hrun : (Builtin.append_ #[t, t] ty #[v, .slice (some a) m c]).run P w = .ok v' w') : v'.ownBlock = v.ownBlock ∨ ∃ r, v'.ownBlock = some r ∧ w.heap.size ≤ r := by
  rcases hown.2 with ⟨rfl, rfl⟩ | ⟨g, cap, cur, fz, rfl, hbg, hg, hfz, hnc, hcm, hcs, htake⟩
  · have hxs : xs = [] := List.eq_nil_of_length_eq_zero (by simpa using hown.1)
    subst hxs
    obtain ⟨v2, w2, r1, r2, _, _⟩ := run_append_own (P := P) w w.heap.size t ty e i z size bytes ht hi hz hsize hby hzs hsz (.slice none 0 0) 0 [] (World.ownsRow_nil w _ _ _) a m c news hl hnews h1 h63 hbytes (Nat.le_refl _)
    rw [hrun] at r1
    injection r1 with r1 _
    subst r1
    cases hv : v'.ownBlock with
    | none => exact .inl rfl
    | some r => exact .inr ⟨r, rfl, (World.ownsRow.lt r2 r hv).1⟩
  · subst hsize
    subst hby
    by_cases hroom : n + m ≤ cap
    · have hfit : n * i.size + news.length ≤ cur.size := by rw [hl, hcs, ← Nat.add_mul]; exact Nat.mul_le_mul_right _ hroom
      have hr := run_append_roomF (P := P) w t ty e i ht hi g n cap cur fz hg hfz a m c news hl hnews h1 hroom hfit
      rw [hrun] at hr
      injection hr with hr _
      subst hr
      exact .inl rfl
    · have holds : ∀ j u, xs[j]? = some u → w.cell? ((⟨g, 0, none⟩ : Addr).add j) = some u := hown.cells (g := g) rfl
      have h63b : n + m ≤ 9223372036854775807 := h63
      have hr := run_append_grow (P := P) w t ty e i z ht hi hz ⟨g, 0, none⟩ n cap xs hown.1 holds a m c news hl hnews (by omega) (by omega) (growslice_fits (by omega) hbytes)
      rw [hrun] at hr
      injection hr with hr _
      subst hr
      exact .inr ⟨w.heap.size, rfl, Nat.le_refl _⟩

theorem wpList_append_ownR {P : Program} {w : World} {ops : Array Oper} {rest : List Oper} {o : Oper} {a : Act} {Q : Exit → Act → World → Prop} (hgd : o.guard = none) (s x : Operand) (t : TypeId)
    (ho : o.op = .call { callee := .builtin .append, args := #[s, x], argTypes := #[t, t] })
    (e : TypeId) (i : TypeInfo) (z : Value) (size bytes : Nat) (ht : P.underlying t = some (.slice e)) (hi : P.info? e = some i) (hz : i.zero = some z)
    (hsize : i.size = size) (hby : i.bytes = bytes) (hzs : z.cells.size = size) (hsz : 0 < size)
    (v : Value) (n : Nat) (xs : List Value) (hs : a.eval s = v) (hown : w.ownsRowF 0 e size v n xs)
    (ad : Addr) (m c : Nat) (news : List Value) (hx : a.eval x = .slice (some ad) m c) (hl : news.length = m * size) (hnews : ∀ j u, news[j]? = some u → w.cell? (ad.add j) = some u) (h1 : ∀ u ∈ news, u.oneCell' = true)
    (h63 : n + m ≤ maxLen) (hbytes : (n + m) * bytes ≤ 140737488355328)
    (h : ∀ v' w', w'.ownsRowF 0 e size v' (n + m) (xs ++ news) → w.grownBy w' v.ownBlock → (v'.ownBlock = v.ownBlock ∨ ∃ r, v'.ownBlock = some r ∧ w.heap.size ≤ r) → wpList P ops Q rest (a.put o.dst v') w') : wpList P ops Q (o :: rest) a w := by
  refine wpList_plain hgd fun K hK => ?_
  obtain ⟨v', w', hr, h2, h3, _⟩ := run_append_ownF (P := P) w 0 t o.type e i z size bytes ht hi hz hsize hby hzs hsz v n xs hown ad m c news hl hnews h1 h63 hbytes (Nat.zero_le _)
  have hwh := append_where w t o.type e i z size bytes ht hi hz hsize hby hzs hsz v n xs hown ad m c news hl hnews h1 h63 hbytes v' w' hr
  unfold Oper.wp execOp
  simp only [ho, resolve, invoke, builtin, Sem.run_bind, Sem.run_pure, Result.andThen_ok, List.map_toArray, List.map_cons, List.map_nil, hs, hx, hr]
  exact hK _ _ (h v' w' h2 h3 hwh)

theorem append_where_str {P : Program} (w : World) (t u ty e : TypeId) (i : TypeInfo) (ht : P.underlying t = some (.slice e)) (hu : P.underlying u = some .string) (hi : P.info? e = some i) (hz : i.zero = some (.int .u8 0))
    (hsize : i.size = 1) (hby : i.bytes = 1)
    (v : Value) (n : Nat) (xs : List Value) (hown : w.ownsRowF 0 e 1 v n xs) (s : ByteArray)
    (h63 : n + s.size ≤ maxLen) (hbytes : n + s.size ≤ 140737488355328) (v' : Value) (w' : World)
    (hrun : (Builtin.append_ #[t, u] ty #[v, .string s]).run P w = .ok v' w') : v'.ownBlock = v.ownBlock ∨ ∃ r, v'.ownBlock = some r ∧ w.heap.size ≤ r := by
  rcases hown.2 with ⟨rfl, rfl⟩ | ⟨g, cap, cur, fz, rfl, hbg, hg, hfz, hnc, hcm, hcs, htake⟩
  · have hxs : xs = [] := List.eq_nil_of_length_eq_zero (by simpa using hown.1)
    subst hxs
    obtain ⟨v2, w2, r1, r2, _, _⟩ := Lib.run_append_own_string (P := P) w w.heap.size t u ty e i ht hu hi hz hsize hby (.slice none 0 0) 0 [] (World.ownsRow_nil w _ _ _) s h63 hbytes (Nat.le_refl _)
    rw [hrun] at r1
    injection r1 with r1 _
    subst r1
    cases hv : v'.ownBlock with
    | none => exact .inl rfl
    | some r => exact .inr ⟨r, rfl, (World.ownsRow.lt r2 r hv).1⟩
  · have hxl : xs.length = n := by simpa using hown.1
    have h63b : n + s.size ≤ 9223372036854775807 := h63
    by_cases hroom : n + s.size ≤ cap
    · have hcs' : cur.size = cap := by simpa using hcs
      have hr := Lib.run_append_room_stringF (P := P) w t u ty e i ht hu hi hsize g n cap cur fz hg (by omega) s hroom (by omega)
      rw [hrun] at hr
      injection hr with hr _
      subst hr
      exact .inl rfl
    · have holds : ∀ j u, xs[j]? = some u → w.cell? ((⟨g, 0, none⟩ : Addr).add j) = some u := hown.cells (g := g) rfl
      have hr := Lib.run_append_grow_string (P := P) w t u ty e i (.int .u8 0) ht hu hi hz ⟨g, 0, none⟩ n cap xs (by rw [hsize]; simpa using hxl) holds s (by omega) (by omega) (by rw [hby]; exact growslice_fits (by omega) (by omega))
      rw [hrun] at hr
      injection hr with hr _
      subst hr
      exact .inr ⟨w.heap.size, rfl, Nat.le_refl _⟩

theorem wpList_append_strR {P : Program} {w : World} {ops : Array Oper} {rest : List Oper} {o : Oper} {a : Act} {Q : Exit → Act → World → Prop} (hgd : o.guard = none) (sl x : Operand) (t u : TypeId)
    (ho : o.op = .call { callee := .builtin .append, args := #[sl, x], argTypes := #[t, u] })
    (e : TypeId) (i : TypeInfo) (ht : P.underlying t = some (.slice e)) (hu : P.underlying u = some .string) (hi : P.info? e = some i) (hz : i.zero = some (.int .u8 0))
    (hsize : i.size = 1) (hby : i.bytes = 1)
    (v : Value) (n : Nat) (xs : List Value) (hs : a.eval sl = v) (hown : w.ownsRowF 0 e 1 v n xs) (s : ByteArray) (hx : a.eval x = .string s)
    (h63 : n + s.size ≤ maxLen) (hbytes : n + s.size ≤ 140737488355328)
    (h : ∀ v' w', w'.ownsRowF 0 e 1 v' (n + s.size) (xs ++ Lib.strCells s) → w.grownBy w' v.ownBlock → (v'.ownBlock = v.ownBlock ∨ ∃ r, v'.ownBlock = some r ∧ w.heap.size ≤ r) → wpList P ops Q rest (a.put o.dst v') w') : wpList P ops Q (o :: rest) a w := by
  refine wpList_plain hgd fun K hK => ?_
  obtain ⟨v', w', hr, h2, h3, _⟩ := Lib.run_append_own_stringF (P := P) w 0 t u o.type e i ht hu hi hz hsize hby v n xs hown s h63 hbytes (Nat.zero_le _)
  have hwh := append_where_str w t u o.type e i ht hu hi hz hsize hby v n xs hown s h63 hbytes v' w' hr
  unfold Oper.wp execOp
  simp only [ho, resolve, invoke, builtin, Sem.run_bind, Sem.run_pure, Result.andThen_ok, List.map_toArray, List.map_cons, List.map_nil, hs, hx, hr]
  exact hK _ _ (h v' w' h2 h3 hwh)

theorem bstep_head (b : Nat) (w : World) (v : Value) : BStep b w (w.setCell ⟨b, 0, none⟩ v) :=
  ⟨rfl, rfl, rfl, by simp [World.setCell], fun k _ ha => ⟨Below.heap_setCell _ _ _ _ (fun e => ha.1 e), ha.1, fun u hu => ha.2 u (by rw [← World.cell?_setCell_other w ⟨b, 0, none⟩ ⟨b, 1, none⟩ v (by simp)]; exact hu)⟩⟩

/-- Bytes have been appended (in w2), and the builder's slice is stored. -/
theorem bstep_put {p v v' : Value} {b : Nat} {w wa w2 : World} (hbk : w.heap[b]? = some (.cells #[p, v] 64 (0, 0))) (ha : Below w.heap.size w wa) (hg : wa.grownBy w2 v.ownBlock) (hne : v.ownBlock ≠ some b)
    (hw : v'.ownBlock = v.ownBlock ∨ ∃ r, v'.ownBlock = some r ∧ wa.heap.size ≤ r) : BStep b w (w2.setCell ⟨b, 1, none⟩ v') := by
  have hc : w.cell? ⟨b, 1, none⟩ = some v := by rw [cell_of_row w b 1 _ _ _ hbk]; rfl
  have hlt := block_lt_of_cell hc
  have hbk2 : w2.heap[b]? = some (.cells #[p, v] 64 (0, 0)) := by
    rw [hg.block b (Nat.lt_of_lt_of_le hlt ha.size) (fun e => hne e.symm), ha.block b hlt]; exact hbk
  have hc2 : w2.cell? ⟨b, 1, none⟩ = some v := by rw [cell_of_row w2 b 1 _ _ _ hbk2]; rfl
  refine ⟨hg.os.trans ha.os, hg.tape.trans ha.tape, hg.output.trans ha.output, by have := ha.size; have := hg.size; simp [World.setCell]; omega, fun k hk hap => ?_⟩
  have hvk := hap.2 v hc
  refine ⟨?_, hap.1, fun u hu => ?_⟩
  · rw [Below.heap_setCell _ _ _ _ (fun e => hap.1 e), hg.block k (Nat.lt_of_lt_of_le hk ha.size) (fun e => hvk e.symm), ha.block k hk]
  · rw [World.cell?_setCell_same _ _ _ hc2] at hu
    obtain rfl := Option.some.inj hu
    rcases hw with hw | ⟨r, hw, hr⟩
    · rw [hw]; exact hvk
    · rw [hw]; intro e
      have := Option.some.inj e
      have := ha.size
      omega

theorem copyCheck_R (b : Nat) (bs : List UInt8) (w : World) (h : IsB b bs w) :
    Calls Tryd.prog 54 #[.pointer (some ⟨b, 0, none⟩)] w fun e w' => e = .returned (.tuple #[]) ∧ IsBU b bs w' ∧ BStep b w w' := by
  rcases h with h | h
  · refine (copyCheck_fresh b w h.cell0 h.shape h.frozen0).mono ?_
    rintro e w' ⟨rfl, rfl⟩
    exact ⟨rfl, h.used _, bstep_head _ _ _⟩
  · refine (copyCheck_used b w h.cell0).mono ?_
    rintro e w' ⟨rfl, rfl⟩
    exact ⟨rfl, h, BStep.refl _ _⟩

set_option maxHeartbeats 2000000 in
set_option maxRecDepth 100000 in
theorem WriteByte_R (b : Nat) (bs : List UInt8) (c : UInt8) (X : Int) (hX : X = (c.toNat : Int)) (w : World) (h : IsB b bs w) (hlen : bs.length + 1 ≤ 1000000000) :
    Calls Tryd.prog 49 #[.pointer (some ⟨b, 0, none⟩), .int .u8 X] w fun e w' => e = .returned .nilIface ∧ IsBU b (bs ++ [c]) w' ∧ BStep b w w' := by
  obtain ⟨i0, hi, hz0, hz1, hz2⟩ := info_parts infoByte
  have HX := hidF hX
  clear hX
  have hxl : (Lib.byteCells bs).length = bs.length := Lib.byteCells_length bs
  have Hxl := hidF hxl
  clear hxl
  go_enter Tryd.func49, Tryd.ntmps49
  go_wp2_with (go_at_call 54; refine (copyCheck_R b bs _ h).mono ?_)
  rintro e w1 ⟨rfl, h1, hb1⟩
  have Hb1 := hidF hb1
  clear hb1
  obtain ⟨hB, v, hbk, hown, hne⟩ := h1
  rw [Hxl.out] at hown
  have c0 : w1.cell? ⟨b, 0, none⟩ = some (.pointer (some ⟨b, 0, none⟩)) := by rw [Lib.cell_of_heap hbk]; rfl
  have c1 : w1.cell? ⟨b, 1, none⟩ = some v := by rw [Lib.cell_of_heap hbk]; rfl
  go_wp2_with (at_builtin; refine wpList_append_ownR rfl _ _ 39 rfl 5 i0 (.int .u8 0) 1 1 Tryd.underlying39 hi hz0 hz1 hz2 rfl (by decide) _ _ _ rfl (hown.alloc _) ⟨w1.heap.size, 0, none⟩ 1 1 [.int .u8 X] rfl rfl ?c1 ?c2 ?c3 ?c4 ?_)
  case c1 =>
    intro j u hj
    match j, hj with
    | 0, hj => simp at hj; subst hj; simp [Addr.add]
  case c2 => intro u hu; simp at hu; subst hu; rfl
  case c3 => unfold maxLen; omega
  case c4 => omega
  intro v' w2 hown' hgrow hwh
  have hlt : b < w1.heap.size := by
    rcases Nat.lt_or_ge b w1.heap.size with h' | h'
    · exact h'
    · simp [Array.getElem?_eq_none h'] at hbk
  have hb2 : w2.heap[b]? = some (.cells #[.pointer (some ⟨b, 0, none⟩), v] 64 (0, 0)) := by
    rw [hgrow.block b (by simp; omega) (fun e => hne e.symm), Lib.alloc_old w1 _ b hlt]
    exact hbk
  have d0 : w2.cell? ⟨b, 0, none⟩ = some (.pointer (some ⟨b, 0, none⟩)) := by rw [Lib.cell_of_heap hb2]; rfl
  have d1 : w2.cell? ⟨b, 1, none⟩ = some v := by rw [Lib.cell_of_heap hb2]; rfl
  have f1 : w2.frozen? ⟨b, 1, none⟩ = false := Lib.frozen_of_heap hb2 1
  obtain ⟨ao, cap', rfl⟩ : ∃ ao cap', v' = .slice ao (bs.length + 1) cap' := by
    rcases hown'.2 with ⟨_, h0⟩ | ⟨g, cap, cur, fz, hv, _⟩
    · omega
    · exact ⟨_, _, hv⟩
  have HF := hidF (show IsBU b (bs ++ [c]) (w2.setCell ⟨b, 1, none⟩ (.slice ao (bs.length + 1) cap')) ∧ BStep b w (w2.setCell ⟨b, 1, none⟩ (.slice ao (bs.length + 1) cap')) from by
    refine ⟨Lib.BuilderAtF.put (T := 64) (e := 5) hB hb2 (bs' := Lib.byteCells (bs ++ [c])) (by rw [HX.out] at hown'; simpa [Lib.byteCells] using hown') (by decide), Hb1.out.trans (bstep_put hbk ((Below.refl _ _).alloc (Nat.le_refl _) _) hgrow hne (by simpa using hwh))⟩)
  clear hown' hgrow hwh hbk hown hne hb2
  go_wp2
  go_ret
  exact ⟨rfl, HF.out⟩
end Go.Proofs.YtbpoecfbcmdeeaaDoor
