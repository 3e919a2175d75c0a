/- strings.Builder's Write, WriteString and WriteRune (of runes below 256) over this program, with what they leave alone. -/
import Derived.Test.YtbpoecfbcmdeeaaDoorBldR
import Derived.Test.YtbpoecfbcmdeeaaDoorWText
import Derived.Outline
namespace Go.Proofs.YtbpoecfbcmdeeaaDoor
open Go.RowKit

set_option maxHeartbeats 2000000 in
set_option maxRecDepth 100000 in
theorem Write_R (b g o cap : Nat) (bs l : List UInt8) (w : World) (h : IsB b bs w) (hlen : bs.length + l.length ≤ 1000000000) (hga : l ≠ [] → Apart w b g)
    (hc : ∀ j c, l[j]? = some c → w.cell? ⟨g, o + j, none⟩ = some (.int .u8 (c.toNat : Int))) :
    Calls Tryd.prog 47 #[.pointer (some ⟨b, 0, none⟩), .slice (some ⟨g, o, none⟩) l.length cap] w fun e w' => e = .returned (.tuple #[.int .i64 l.length, .nilIface]) ∧ IsBU b (bs ++ l) w' ∧ BStep b w w' := by
  obtain ⟨i0, hi, hz0, hz1, hz2⟩ := info_parts infoByte
  have Hc := hidF hc
  have Hga := hidF hga
  clear hc hga
  have Hxl := hidF (Lib.byteCells_length bs)
  go_enter Tryd.func47, Tryd.ntmps47
  go_wp2_with (go_at_call 54; refine (copyCheck_R b bs _ h).mono ?_)
  rintro e w1 ⟨rfl, h1, hb1⟩
  have Hb1 := hidF hb1
  clear hb1
  obtain ⟨hB, v, hbk, hown, hne⟩ := h1
  rw [Hxl.out] at hown
  have c0 : w1.cell? ⟨b, 0, none⟩ = some (.pointer (some ⟨b, 0, none⟩)) := by rw [Lib.cell_of_heap hbk]; rfl
  have c1 : w1.cell? ⟨b, 1, none⟩ = some v := by rw [Lib.cell_of_heap hbk]; rfl
  go_wp2_with (at_builtin; refine wpList_append_ownR rfl _ _ 39 rfl 5 i0 (.int .u8 0) 1 1 Tryd.underlying39 hi hz0 hz1 hz2 rfl (by decide) _ _ _ rfl hown ⟨g, o, none⟩ l.length cap (Lib.byteCells l) rfl (by simp [Lib.byteCells]) ?c1 ?c2 ?c3 ?c4 ?_)
  case c1 =>
    intro j u hj
    have e : (⟨g, o, none⟩ : Addr).add j = ⟨g, o + j, none⟩ := by unfold Addr.add; split <;> simp_all
    unfold Lib.byteCells at hj
    rw [List.getElem?_map] at hj
    obtain ⟨c, hjc, rfl⟩ := Option.map_eq_some_iff.1 hj
    rw [e]
    exact Hb1.out.cell (Hga.out (fun e => by rw [e] at hjc; simp at hjc)) (Hc.out j c hjc)
  case c2 =>
    intro u hu
    unfold Lib.byteCells at hu
    obtain ⟨c, _, rfl⟩ := List.mem_map.1 hu
    rfl
  case c3 => unfold maxLen; omega
  case c4 => omega
  intro v' w2 hown' hgrow hwh
  have hlt : b < w1.heap.size := by
    rcases Nat.lt_or_ge b w1.heap.size with h' | h'
    · exact h'
    · simp [Array.getElem?_eq_none h'] at hbk
  have hb2 : w2.heap[b]? = some (.cells #[.pointer (some ⟨b, 0, none⟩), v] 64 (0, 0)) := by
    rw [hgrow.block b hlt (fun e => hne e.symm)]
    exact hbk
  have d0 : w2.cell? ⟨b, 0, none⟩ = some (.pointer (some ⟨b, 0, none⟩)) := by rw [Lib.cell_of_heap hb2]; rfl
  have d1 : w2.cell? ⟨b, 1, none⟩ = some v := by rw [Lib.cell_of_heap hb2]; rfl
  have f1 : w2.frozen? ⟨b, 1, none⟩ = false := Lib.frozen_of_heap hb2 1
  obtain ⟨ao, cap', rfl⟩ : ∃ ao cap', v' = .slice ao (bs.length + l.length) cap' := by
    rcases hown'.2 with ⟨rfl, h0⟩ | ⟨g, cap', cur, fz, rfl, _⟩
    · exact ⟨none, 0, by rw [h0]⟩
    · exact ⟨_, _, rfl⟩
  have HF := hidF (show IsBU b (bs ++ l) (w2.setCell ⟨b, 1, none⟩ (.slice ao (bs.length + l.length) cap')) ∧ BStep b w (w2.setCell ⟨b, 1, none⟩ (.slice ao (bs.length + l.length) cap')) from by
    refine ⟨Lib.BuilderAtF.put (T := 64) (e := 5) hB hb2 (bs' := Lib.byteCells (bs ++ l)) (by simpa [Lib.byteCells] using hown') (by decide), Hb1.out.trans (bstep_put hbk (Below.refl _ _) hgrow hne hwh)⟩)
  clear hown' hgrow hwh hbk hown hne hb2
  go_wp2
  go_ret2
  exact ⟨rfl, HF.out⟩

set_option maxHeartbeats 2000000 in
set_option maxRecDepth 100000 in
theorem WriteString_R (b : Nat) (bs : List UInt8) (s : ByteArray) (w : World) (h : IsB b bs w) (hlen : bs.length + s.size ≤ 1000000000) :
    Calls Tryd.prog 34 #[.pointer (some ⟨b, 0, none⟩), .string s] w fun e w' => e = .returned (.tuple #[.int .i64 s.size, .nilIface]) ∧ IsBU b (bs ++ s.data.toList) w' ∧ BStep b w w' := by
  obtain ⟨i0, hi, hz0, hz1, hz2⟩ := info_parts infoByte
  have Hxl := hidF (Lib.byteCells_length bs)
  go_enter Tryd.func34, Tryd.ntmps34
  go_wp2_with (go_at_call 54; refine (copyCheck_R b bs _ h).mono ?_)
  rintro e w1 ⟨rfl, h1, hb1⟩
  have Hb1 := hidF hb1
  clear hb1
  obtain ⟨hB, v, hbk, hown, hne⟩ := h1
  rw [Hxl.out] at hown
  have c0 : w1.cell? ⟨b, 0, none⟩ = some (.pointer (some ⟨b, 0, none⟩)) := by rw [Lib.cell_of_heap hbk]; rfl
  have c1 : w1.cell? ⟨b, 1, none⟩ = some v := by rw [Lib.cell_of_heap hbk]; rfl
  go_wp2_with (at_builtin; refine wpList_append_strR rfl _ _ 39 9 rfl 5 i0 Tryd.underlying39 Tryd.underlying9 hi hz0 hz1 hz2 _ _ _ rfl hown s rfl ?c3 ?c4 ?_)
  case c3 => unfold maxLen; omega
  case c4 => omega
  intro v' w2 hown' hgrow hwh
  have hlt : b < w1.heap.size := by
    rcases Nat.lt_or_ge b w1.heap.size with h' | h'
    · exact h'
    · simp [Array.getElem?_eq_none h'] at hbk
  have hb2 : w2.heap[b]? = some (.cells #[.pointer (some ⟨b, 0, none⟩), v] 64 (0, 0)) := by
    rw [hgrow.block b hlt (fun e => hne e.symm)]
    exact hbk
  have d0 : w2.cell? ⟨b, 0, none⟩ = some (.pointer (some ⟨b, 0, none⟩)) := by rw [Lib.cell_of_heap hb2]; rfl
  have d1 : w2.cell? ⟨b, 1, none⟩ = some v := by rw [Lib.cell_of_heap hb2]; rfl
  have f1 : w2.frozen? ⟨b, 1, none⟩ = false := Lib.frozen_of_heap hb2 1
  obtain ⟨ao, cap', rfl⟩ : ∃ ao cap', v' = .slice ao (bs.length + s.size) cap' := by
    rcases hown'.2 with ⟨rfl, h0⟩ | ⟨g, cap', cur, fz, rfl, _⟩
    · exact ⟨none, 0, by rw [h0]⟩
    · exact ⟨_, _, rfl⟩
  have HF := hidF (show IsBU b (bs ++ s.data.toList) (w2.setCell ⟨b, 1, none⟩ (.slice ao (bs.length + s.size) cap')) ∧ BStep b w (w2.setCell ⟨b, 1, none⟩ (.slice ao (bs.length + s.size) cap')) from by
    refine ⟨Lib.BuilderAtF.put (T := 64) (e := 5) hB hb2 (bs' := Lib.byteCells (bs ++ s.data.toList)) ?_ (by decide), Hb1.out.trans (bstep_put hbk (Below.refl _ _) hgrow hne hwh)⟩
    rw [Lib.byteCells_length, List.length_append, ← size_of_list, Lib.byteCells_append, ← Lib.strCells_eq]
    exact hown')
  clear hown' hgrow hwh hbk hown hne hb2
  go_wp2
  go_ret2
  exact ⟨rfl, HF.out⟩

theorem latin_or' (c : UInt8) : bits BinOp.or .u8 192 ((c.toNat : Int) / 64) = (((0xC0 : UInt8) ||| (c >>> 6)).toNat : Int) := by
  have h : ∀ n : Fin 256, bits BinOp.or .u8 192 ((n.val : Int) / 64) = (((0xC0 : UInt8) ||| (UInt8.ofNat n.val >>> 6)).toNat : Int) := by decide +kernel
  have := h ⟨c.toNat, c.toNat_lt⟩
  simpa using this
theorem latin_and' (c : UInt8) : 128 + (c.toNat : Int) % 64 = (((0x80 : UInt8) ||| (c &&& 0x3F)).toNat : Int) := by
  have h : ∀ n : Fin 256, 128 + (n.val : Int) % 64 = (((0x80 : UInt8) ||| (UInt8.ofNat n.val &&& 0x3F)).toNat : Int) := by decide +kernel
  have := h ⟨c.toNat, c.toNat_lt⟩
  simpa using this

/-- What an append onto v did. -/
def Grew (w : World) (v : Value) (n : Nat) (xs : List Value) (l : List UInt8) (e : Ending) (w' : World) : Prop :=
  ∃ v', e = .returned v' ∧ w'.ownsRowF 0 5 1 v' (n + l.length) (xs ++ Lib.byteCells l) ∧ (∃ wa, Below w.heap.size w wa ∧ wa.grownBy w' v.ownBlock ∧ (v'.ownBlock = v.ownBlock ∨ ∃ r, v'.ownBlock = some r ∧ wa.heap.size ≤ r))

set_option maxHeartbeats 2000000 in
set_option maxRecDepth 100000 in
theorem appendNA_R (v : Value) (n : Nat) (xs : List Value) (c p q : UInt8) (w : World) (hown : w.ownsRowF 0 5 1 v n xs) (hlen : n + 4 ≤ 1000000000)
    (l1 : bits BinOp.or .u8 192 ((c.toNat : Int) / 64) = (p.toNat : Int)) (l2 : 128 + (c.toNat : Int) % 64 = (q.toNat : Int)) :
    Calls Tryd.prog 83 #[v, .int .i32 (c.toNat : Int)] w (Grew w v n xs [p, q]) := by
  obtain ⟨i0, hi, hz0, hz1, hz2⟩ := info_parts infoByte
  have hc := c.toNat_lt
  have a2 : (c.toNat : Int) ≤ 2047 := by omega
  have a3 : (c.toNat : Int) < 256 := by omega
  go_enter Tryd.func83, Tryd.ntmps83
  go_wp2_with (at_builtin; refine wpList_append_ownR rfl _ _ 39 rfl 5 i0 (.int .u8 0) 1 1 Tryd.underlying39 hi hz0 hz1 hz2 rfl (by decide) _ _ _ rfl (hown.alloc _) ⟨w.heap.size, 0, none⟩ 2 2 [.int .u8 (p.toNat : Int), .int .u8 (q.toNat : Int)] rfl rfl ?c1 ?c2 ?c3 ?c4 ?_)
  case c1 =>
    intro j u hj
    match j, hj with
    | 0, hj => simp at hj; subst hj; simp [Addr.add]
    | 1, hj => simp at hj; subst hj; simp [Addr.add]
  case c2 => intro u hu; simp at hu; rcases hu with rfl | rfl <;> rfl
  case c3 => unfold maxLen; omega
  case c4 => omega
  intro v' w2 hown' hgrow hwh
  have HF := hidF (show w2.ownsRowF 0 5 1 v' (n + [p, q].length) (xs ++ Lib.byteCells [p, q]) ∧ (∃ wa, Below w.heap.size w wa ∧ wa.grownBy w2 v.ownBlock ∧ (v'.ownBlock = v.ownBlock ∨ ∃ r, v'.ownBlock = some r ∧ wa.heap.size ≤ r)) from
    ⟨hown', _, (Below.refl _ _).alloc (Nat.le_refl _) _, hgrow, by simpa using hwh⟩)
  clear hown' hgrow hwh
  go_wp2
  go_ret
  exact ⟨v', rfl, HF.out⟩

set_option maxHeartbeats 2000000 in
set_option maxRecDepth 100000 in
theorem AppendRune_R (v : Value) (n : Nat) (xs : List Value) (c : UInt8) (w : World) (hown : w.ownsRowF 0 5 1 v n xs) (hlen : n + 4 ≤ 1000000000) :
    Calls Tryd.prog 67 #[v, .int .i32 (c.toNat : Int)] w (Grew w v n xs (latinC c)) := by
  obtain ⟨i0, hi, hz0, hz1, hz2⟩ := info_parts infoByte
  have hc := c.toNat_lt
  by_cases h7 : c.toNat < 128
  · have a1 : (c.toNat : Int) ≤ 127 := by omega
    have hl : latinC c = [c] := by unfold latinC; rw [if_pos h7]
    rw [hl]
    have Hl := hidF hl
    clear hl h7
    go_enter Tryd.func67, Tryd.ntmps67
    go_wp2_with (at_builtin; refine wpList_append_ownR rfl _ _ 39 rfl 5 i0 (.int .u8 0) 1 1 Tryd.underlying39 hi hz0 hz1 hz2 rfl (by decide) _ _ _ rfl (hown.alloc _) ⟨w.heap.size, 0, none⟩ 1 1 [.int .u8 (c.toNat : Int)] rfl rfl ?c1 ?c2 ?c3 ?c4 ?_)
    case c1 =>
      intro j u hj
      match j, hj with
      | 0, hj => simp at hj; subst hj; simp [Addr.add]
    case c2 => intro u hu; simp at hu; subst hu; rfl
    case c3 => unfold maxLen; omega
    case c4 => omega
    intro v' w2 hown' hgrow hwh
    have HF := hidF (show w2.ownsRowF 0 5 1 v' (n + [c].length) (xs ++ Lib.byteCells [c]) ∧ (∃ wa, Below w.heap.size w wa ∧ wa.grownBy w2 v.ownBlock ∧ (v'.ownBlock = v.ownBlock ∨ ∃ r, v'.ownBlock = some r ∧ wa.heap.size ≤ r)) from
      ⟨hown', _, (Below.refl _ _).alloc (Nat.le_refl _) _, hgrow, by simpa using hwh⟩)
    clear hown' hgrow hwh
    go_wp2
    go_ret
    exact ⟨v', rfl, HF.out⟩
  · have a1 : ¬ (c.toNat : Int) ≤ 127 := by omega
    have a2 : (c.toNat : Int) ≤ 2047 := by omega
    have a3 : (c.toNat : Int) < 256 := by omega
    have hl : latinC c = [(0xC0 : UInt8) ||| (c >>> 6), (0x80 : UInt8) ||| (c &&& 0x3F)] := by unfold latinC; rw [if_neg h7]
    rw [hl]
    obtain ⟨p, hp⟩ : ∃ p, p = (0xC0 : UInt8) ||| (c >>> 6) := ⟨_, rfl⟩
    obtain ⟨q, hq⟩ : ∃ q, q = (0x80 : UInt8) ||| (c &&& 0x3F) := ⟨_, rfl⟩
    have l1 := latin_or' c
    have l2 := latin_and' c
    rw [← hp] at l1 ⊢
    rw [← hq] at l2 ⊢
    have hcall := hidF (appendNA_R v n xs c p q w hown hlen l1 l2)
    clear hl h7 hp hq l1 l2
    go_enter Tryd.func67, Tryd.ntmps67
    go_wp2_with fail
    refine hcall.out.mono ?_
    rintro e w2 ⟨v', rfl, HF0⟩
    have HF := hidF HF0
    clear HF0 hcall
    go_wp2
    go_ret
    exact ⟨v', rfl, HF.out⟩

set_option maxHeartbeats 2000000 in
set_option maxRecDepth 100000 in
theorem WriteRune_R (b : Nat) (bs : List UInt8) (c : UInt8) (w : World) (h : IsB b bs w) (hlen : bs.length + 4 ≤ 1000000000) :
    Calls Tryd.prog 48 #[.pointer (some ⟨b, 0, none⟩), .int .i32 (c.toNat : Int)] w fun e w' => (∃ k : Int, e = .returned (.tuple #[.int .i64 k, .nilIface])) ∧ IsBU b (bs ++ latinC c) w' ∧ BStep b w w' := by
  have Hxl := hidF (Lib.byteCells_length bs)
  go_enter Tryd.func48, Tryd.ntmps48
  go_wp2_with (go_at_call 54; refine (copyCheck_R b bs _ h).mono ?_)
  rintro e w1 ⟨rfl, h1, hb1⟩
  have Hb1 := hidF hb1
  clear hb1
  obtain ⟨hB, v, hbk, hown, hne⟩ := h1
  rw [Hxl.out] at hown
  obtain ⟨ao, cap, rfl⟩ : ∃ ao cap, v = .slice ao bs.length cap := by
    rcases hown.2 with ⟨hv, h0⟩ | ⟨g, cap, cur, fz, hv, _⟩
    · exact ⟨none, 0, by rw [hv, h0]⟩
    · exact ⟨_, _, hv⟩
  have c0 : w1.cell? ⟨b, 0, none⟩ = some (.pointer (some ⟨b, 0, none⟩)) := by rw [Lib.cell_of_heap hbk]; rfl
  have c1 : w1.cell? ⟨b, 1, none⟩ = some (.slice ao bs.length cap) := by rw [Lib.cell_of_heap hbk]; rfl
  have hcall := hidF (AppendRune_R _ bs.length _ c w1 hown hlen)
  go_wp2_with fail
  refine hcall.out.mono ?_
  rintro e w2 ⟨v', rfl, hown', wa, hwa, hgrow, hwh⟩
  have hlt : b < w1.heap.size := by
    rcases Nat.lt_or_ge b w1.heap.size with h' | h'
    · exact h'
    · simp [Array.getElem?_eq_none h'] at hbk
  have hb2 : w2.heap[b]? = some (.cells #[.pointer (some ⟨b, 0, none⟩), .slice ao bs.length cap] 64 (0, 0)) := by
    rw [hgrow.block b (Nat.lt_of_lt_of_le hlt hwa.size) (fun e => hne e.symm), hwa.block b hlt]
    exact hbk
  have d0 : w2.cell? ⟨b, 0, none⟩ = some (.pointer (some ⟨b, 0, none⟩)) := by rw [Lib.cell_of_heap hb2]; rfl
  have d1 : w2.cell? ⟨b, 1, none⟩ = some (.slice ao bs.length cap) := by rw [Lib.cell_of_heap hb2]; rfl
  have f1 : w2.frozen? ⟨b, 1, none⟩ = false := Lib.frozen_of_heap hb2 1
  have hll : (latinC c).length ≤ 2 := by unfold latinC; split <;> simp
  obtain ⟨L, hL⟩ : ∃ L, L = latinC c := ⟨_, rfl⟩
  rw [← hL] at hown' hll
  obtain ⟨ao2, cap', rfl⟩ : ∃ ao2 cap', v' = .slice ao2 (bs.length + L.length) cap' := by
    rcases hown'.2 with ⟨rfl, h0⟩ | ⟨g, cap', cur, fz, rfl, _⟩
    · exact ⟨none, 0, by rw [h0]⟩
    · exact ⟨_, _, rfl⟩
  have HF := hidF (show IsBU b (bs ++ latinC c) (w2.setCell ⟨b, 1, none⟩ (.slice ao2 (bs.length + L.length) cap')) ∧ BStep b w (w2.setCell ⟨b, 1, none⟩ (.slice ao2 (bs.length + L.length) cap')) from by
    rw [← hL]
    refine ⟨Lib.BuilderAtF.put (T := 64) (e := 5) hB hb2 (bs' := Lib.byteCells (bs ++ L)) (by simpa [Lib.byteCells] using hown') (by decide), Hb1.out.trans (bstep_put hbk hwa hgrow hne hwh)⟩)
  clear hown' hgrow hwh hbk hown hne hb2 hL hwa hcall
  go_wp2
  go_ret2
  exact ⟨⟨_, rfl⟩, HF.out⟩

/-- A builder that has just been made. -/
theorem IsB.fresh (w : World) : IsB w.heap.size [] (w.alloc (.cells #[.pointer none, .slice none 0 0] 64)) :=
  .inl ⟨Nat.zero_le _, .slice none 0 0, heap_alloc_new w _, World.ownsRowF_nil _ _ _ _, by simp [Value.ownBlock]⟩
theorem apart_fresh (w : World) (k : Nat) (hk : k < w.heap.size) : Apart (w.alloc (.cells #[.pointer none, .slice none 0 0] 64)) w.heap.size k := by
  refine ⟨by omega, fun v hv => ?_⟩
  have : (w.alloc (.cells #[.pointer none, .slice none 0 0] 64)).cell? ⟨w.heap.size, 1, none⟩ = some (.slice none 0 0) := by rw [cell_of_row _ _ _ _ _ _ (heap_alloc_new w _)]; rfl
  rw [this] at hv
  obtain rfl := Option.some.inj hv
  simp [Value.ownBlock]
theorem builderAt_up {p : Value} {b N : Nat} {bs : List Value} {w : World} (h : Lib.BuilderAtF 64 5 0 b p bs w) (ha : ∀ k, k < N → Apart w b k) : Lib.BuilderAtF 64 5 N b p bs w := by
  obtain ⟨_, v, hbk, hown, hne⟩ := h
  have hc : w.cell? ⟨b, 1, none⟩ = some v := by rw [cell_of_row w b 1 _ _ _ hbk]; rfl
  refine ⟨?_, v, hbk, ⟨hown.1, ?_⟩, hne⟩
  · rcases Nat.lt_or_ge b N with hb | hb
    · exact absurd rfl (ha b hb).1
    · exact hb
  · rcases hown.2 with h0 | ⟨g, cap, cur, fz, rfl, _, rest⟩
    · exact .inl h0
    · refine .inr ⟨g, cap, cur, fz, rfl, ?_, rest⟩
      rcases Nat.lt_or_ge g N with hg | hg
      · exact absurd rfl ((ha g hg).2 _ hc)
      · exact hg
theorem IsB.up {b N : Nat} {bs : List UInt8} {w : World} (h : IsB b bs w) (ha : ∀ k, k < N → Apart w b k) : Lib.IsBuilderF 64 5 N b (Lib.byteCells bs) w :=
  h.elim (fun x => .inl (builderAt_up x ha)) (fun x => .inr (builderAt_up x ha))
end Go.Proofs.YtbpoecfbcmdeeaaDoor
