/- '[]byte(text)' with a slice of bytes behind it. -/
import Derived.Test.YtddnjdapdcopgaaDoorClone
import Derived.ArgAppend
namespace Go.Proofs.YtddnjdapdcopgaaDoor
open Go.RowKit

theorem add_at' (g a j : Nat) : (⟨g, a, none⟩ : Addr).add j = ⟨g, a + j, none⟩ := by
  unfold Addr.add
  split
  · rename_i h; rw [h, Nat.add_zero]
  · rfl
theorem only_setCells (g : Nat) : ∀ (vs : List Value) (o : Nat) (w : World), Only [g] w (w.setCells g o vs)
  | [], _, _ => Only.refl _ _
  | v :: r, o, w => (Only.set w g o v).trans (only_setCells g r (o + 1) _)

/-- '[]byte(s)': a row of the string's bytes, and room behind them. -/
theorem conv_bytes (s : ByteArray) (w : World) (hs : s.size ≤ maxLen) : ∃ cap w1, (convert 9 22 (.string s)).run Tryd.prog w = .ok (.slice (some ⟨w.heap.size, 0, none⟩) s.size cap) w1 ∧ s.size ≤ cap ∧ Only [] w w1 ∧
    (∀ j c, s.data.toList[j]? = some c → w1.cell? ⟨w.heap.size, j, none⟩ = some (.int .u8 (c.toNat : Int))) ∧ (∀ j, j < cap → (w1.cell? ⟨w.heap.size, j, none⟩).isSome = true ∧ w1.frozen? ⟨w.heap.size, j, none⟩ = false) := by
  have hr := run_bytes_of_string (P := Tryd.prog) w 9 22 5 s Tryd.underlying9 Tryd.underlying22 Tryd.underlying5
  have hge := grownCap_ge w s.size 0 5
  have hsz : (bytesRow s (grownCap w s.size 0 5)).size = grownCap w s.size 0 5 := by
    unfold bytesRow
    simp
    have : s.data.size = s.size := rfl
    omega
  refine ⟨_, _, hr, hge, ?_, fun j c hj => ?_, fun j hj => ?_⟩
  · exact Only.of_below (((Below.refl _ w).drew).alloc (Nat.le_refl _) _)
  · obtain ⟨hj1, he⟩ := list_get s j c hj
    have hat := bytesRow_at s (grownCap w s.size 0 5) j hj1
    generalize bytesRow s (grownCap w s.size 0 5) = C at hat ⊢
    have h1 := World.cell?_alloc_mark w.drew C 5 (C.size, C.size + 1) j
    exact (h1.trans hat).trans (by rw [he])
  · generalize bytesRow s (grownCap w s.size 0 5) = C at hsz ⊢
    have h1 := World.cell?_alloc_mark w.drew C 5 (C.size, C.size + 1) j
    have h2 := World.frozen?_alloc_mark w.drew C 5 C.size (C.size + 1) j
    refine ⟨?_, h2.trans ?_⟩
    · have h3 : (w.drew.alloc (.cells C 5 (C.size, C.size + 1))).cell? ⟨w.heap.size, j, none⟩ = C[j]? := h1
      rw [h3, Array.getElem?_eq_getElem (by rw [hsz]; exact hj)]
      rfl
    · simp; omega

/-- append(row, body...). -/
theorem run_append_tail (g n cap : Nat) (T body : List UInt8) (ab : Option Addr) (lb cb : Nat) (w : World) (ty : TypeId) (hn : T.length = n) (hcap : n ≤ cap) (hT : ∀ j c, T[j]? = some c → w.cell? ⟨g, j, none⟩ = some (.int .u8 (c.toNat : Int)))
    (hsp : ∀ j, j < cap → (w.cell? ⟨g, j, none⟩).isSome = true ∧ w.frozen? ⟨g, j, none⟩ = false) (hB : ArgB (.slice ab lb cb) body w) (hlb : lb = body.length) (hmax : n + lb ≤ 1000000000) :
    ∃ a' c' w', (Builtin.append_ #[22, 22] ty #[.slice (some ⟨g, 0, none⟩) n cap, .slice ab lb cb]).run Tryd.prog w = .ok (.slice a' (n + lb) c') w' ∧ ArgB (.slice a' (n + lb) c') (T ++ body) w' ∧ Only [g] w w' := by
  obtain ⟨i0, hi, hz0, hz1, hz2⟩ := info_parts infoByteB
  subst hn
  rcases hB with ⟨n2, c2, h1, rfl⟩ | ⟨b, c2, h1, hc⟩
  · injection h1 with h1 h2 h3
    subst h1
    obtain rfl : lb = 0 := hlb
    refine ⟨some ⟨g, 0, none⟩, cap, w, ?_, .inr ⟨⟨g, 0, none⟩, cap, by simp, fun j x hj => ?_⟩, Only.refl _ _⟩
    · simp [Builtin.append_, run_underlying Tryd.underlying22, sizeOf, typeInfo, hi, Builtin.lenOf, Builtin.firstCells, hcap, storeCells]
    · rw [List.append_nil] at hj
      rw [add_at', Nat.zero_add]
      exact hT j x hj
  · injection h1 with h1 h2 h3
    subst h1
    have hnews : ∀ j u, (Lib.byteCells body)[j]? = some u → w.cell? (b.add j) = some u := fun j u hj => by
      unfold Lib.byteCells at hj
      rw [List.getElem?_map] at hj
      cases ht : body[j]? with
      | none => rw [ht] at hj; cases hj
      | some c =>
        rw [ht] at hj
        obtain rfl := Option.some.inj hj
        exact hc j c ht
    have hone : ∀ u ∈ Lib.byteCells body, u.oneCell' = true := fun u hu => by
      unfold Lib.byteCells at hu
      obtain ⟨c, _, rfl⟩ := List.mem_map.1 hu
      rfl
    have hbl : (Lib.byteCells body).length = lb * 1 := by rw [bc_len, hlb, Nat.mul_one]
    by_cases hroom : T.length + lb ≤ cap
    · have hin : ∀ j, j < (Lib.byteCells body).length → (w.cell? ⟨g, 0 + T.length * 1 + j, none⟩).isSome = true ∧ w.frozen? ⟨g, 0 + T.length * 1 + j, none⟩ = false := fun j hj => by
        rw [show 0 + T.length * 1 + j = T.length + j by omega]
        exact hsp _ (by omega)
      have hr := run_append_room_cells (P := Tryd.prog) w 22 ty 5 i0 Tryd.underlying22 hi g 0 T.length cap b lb cb (Lib.byteCells body) (by rw [hz1]; exact hbl) hnews hone hroom (fun j hj => by rw [hz1]; exact (hin j hj).1) (fun j hj => by rw [hz1]; exact (hin j hj).2)
      refine ⟨_, _, _, hr, .inr ⟨⟨g, 0, none⟩, cap, ?_, fun j x hj => ?_⟩, only_setCells g _ _ w⟩
      · rw [List.length_append, hlb]
      · rw [hz1, add_at']
        simp only [Nat.zero_add, Nat.mul_one]
        by_cases hjT : j < T.length
        · rw [World.cell?_setCells_out g _ _ w ⟨g, j, none⟩ (fun _ _ => .inl (by show j < _; omega))]
          rw [List.getElem?_append_left hjT] at hj
          exact hT j x hj
        · rw [List.getElem?_append_right (by omega)] at hj
          have hj2 := (List.getElem?_eq_some_iff.1 hj).1
          have h5 := World.cell?_setCells_in g (Lib.byteCells body) (0 + T.length * 1) w (fun k hk => (hin k hk).1) (j - T.length) (by rw [bc_len]; exact hj2)
          simp only [Nat.zero_add, Nat.mul_one] at h5
          rw [show T.length + (j - T.length) = j by omega] at h5
          rw [h5]
          have h6 : (Lib.byteCells body)[j - T.length]? = some (.int .u8 (x.toNat : Int)) := by
            unfold Lib.byteCells
            rw [List.getElem?_map, hj]; rfl
          rw [List.getElem?_eq_getElem (by rw [bc_len]; exact hj2)] at h6
          exact h6
    · have holds : ∀ j u, (Lib.byteCells T)[j]? = some u → w.cell? ((⟨g, 0, none⟩ : Addr).add j) = some u := fun j u hj => by
        unfold Lib.byteCells at hj
        rw [List.getElem?_map] at hj
        cases ht : T[j]? with
        | none => rw [ht] at hj; cases hj
        | some c =>
          rw [ht] at hj
          obtain rfl := Option.some.inj hj
          rw [add_at', Nat.zero_add]
          exact hT j c ht
      obtain ⟨v', w', hr, ho, hgr⟩ := run_append_arg_grows (P := Tryd.prog) w 22 ty 5 i0 _ 1 1 Tryd.underlying22 hi hz0 hz1 hz2 rfl (by decide) ⟨g, 0, none⟩ T.length cap (Lib.byteCells T) (by rw [bc_len, Nat.mul_one]) holds b lb cb (Lib.byteCells body) hbl hnews (by omega) (by unfold maxLen; omega) (by omega)
      have hO : OwnB w.heap.size v' (T ++ body) w' := by
        unfold OwnB
        have e : Lib.byteCells (T ++ body) = Lib.byteCells T ++ Lib.byteCells body := by simp [Lib.byteCells]
        rw [e, List.length_append, ← hlb]
        exact ho
      rcases hO.row with ⟨rfl, h0⟩ | ⟨g', c', rfl, _, _, _, _, hcl⟩
      · have h7 := congrArg List.length h0
        rw [List.length_append, ← hlb, List.length_nil] at h7
        omega
      · rw [List.length_append, ← hlb] at hr
        refine ⟨_, _, w', hr, .inr ⟨⟨g', 0, none⟩, c', by rw [List.length_append, hlb], fun j x hj => ?_⟩, (Only.of_row hgr).mono (by simp)⟩
        rw [add_at', Nat.zero_add]
        exact (hcl j x hj).1
theorem wpList_append_tail {ops : Array Oper} {rest : List Oper} {o : Oper} {a : Act} {Q : Exit → Act → World → Prop} (hgd : o.guard = none) (s x : Operand)
    (ho : o.op = .call { callee := .builtin .append, args := #[s, x], argTypes := #[22, 22] })
    (g n cap : Nat) (T body : List UInt8) (ab : Option Addr) (lb cb : Nat) (w : World) (hs : a.eval s = .slice (some ⟨g, 0, none⟩) n cap) (hx : a.eval x = .slice ab lb cb) (hn : T.length = n) (hcap : n ≤ cap) (hT : ∀ j c, T[j]? = some c → w.cell? ⟨g, j, none⟩ = some (.int .u8 (c.toNat : Int)))
    (hsp : ∀ j, j < cap → (w.cell? ⟨g, j, none⟩).isSome = true ∧ w.frozen? ⟨g, j, none⟩ = false) (hB : ArgB (.slice ab lb cb) body w) (hlb : lb = body.length) (hmax : n + lb ≤ 1000000000)
    (h : ∀ a' c' w', Hid (ArgB (.slice a' (n + lb) c') (T ++ body) w') → Hid (Only [g] w w') → wpList Tryd.prog ops Q rest (a.put o.dst (.slice a' (n + lb) c')) w') : wpList Tryd.prog ops Q (o :: rest) a w := by
  refine wpList_plain hgd fun K hK => ?_
  obtain ⟨a', c', w', hr, h2, h3⟩ := run_append_tail g n cap T body ab lb cb w o.type hn hcap hT hsp hB hlb hmax
  unfold Oper.wp execOp
  simp only [ho, resolve, invoke, builtin, Sem.run_bind, Sem.run_pure, Result.andThen_ok, List.map_toArray, List.map_cons, List.map_nil, hs, hx, hr]
  exact hK _ _ (h a' c' w' h2 h3)
end Go.Proofs.YtddnjdapdcopgaaDoor
