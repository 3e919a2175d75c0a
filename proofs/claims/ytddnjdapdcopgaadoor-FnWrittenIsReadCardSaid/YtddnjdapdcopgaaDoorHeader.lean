/- The header's map: from names to the lists of their values; and what the reader's doing leaves of it. -/
import Derived.Test.YtddnjdapdcopgaaDoorRcl
import Derived.Test.YtddnjdapdcopgaaDoorCanAny
import Derived.Test.YtddnjdapdcopgaaDoorTl
import Derived.Maps.OwnOps
import Derived.Maps.Views
import Derived.Deep.RegionHeld3
import Derived.Deep.AppendLies
import Derived.StringKeys
import Derived.Maps.Keyed
namespace Go.Proofs.YtddnjdapdcopgaaDoor
open Go.RowKit
open Go.Maps (Keyed)
open Go.ChangeMaps Go.Maps Go.WideMaps

theorem lt_or {w : World} {base : Nat} {e : TypeId} {size : Nat} {v : Value} {n : Nat} {xs : List Value} (h : w.ownsRow base e size v n xs) : v.ownBlock = none ∨ ∃ g, v.ownBlock = some g ∧ base ≤ g := by
  cases hv : v.ownBlock with
  | none => exact .inl rfl
  | some g => exact .inr ⟨g, rfl, (h.lt g hv).1⟩

/-- A map's element, read as it is. -/
def rawR (v : Value) : Option (DataW Value × List MemPlace) := some (.held v, [])
def nilV : Value := .slice none 0 0

/-- The values under a name, in their order. -/
def valsOf (fs : List (ByteArray × ByteArray)) (k : ByteArray) : List Value := (fs.filter (fun p => decide (p.1 = k))).map (fun p => Value.string p.2)

theorem valsOf_snoc_same (fs : List (ByteArray × ByteArray)) (k v : ByteArray) : valsOf (fs ++ [(k, v)]) k = valsOf fs k ++ [.string v] := by simp [valsOf]
theorem valsOf_snoc_other (fs : List (ByteArray × ByteArray)) (k k' v : ByteArray) (h : k ≠ k') : valsOf (fs ++ [(k, v)]) k' = valsOf fs k' := by simp [valsOf, h]
theorem valsOf_length (fs : List (ByteArray × ByteArray)) (k : ByteArray) : (valsOf fs k).length ≤ fs.length := by
  simp only [valsOf, List.length_map]; exact List.length_filter_le _ _

/-- Block B is the map of the fields fs: under each name a slice of the call's own that holds its values; no such slice lies in block ob. -/
def HdrX (w : World) (B n : Nat) (fs : List (ByteArray × ByteArray)) (ob : Option Nat) : Prop :=
  ∃ (D : DataW Value) (val : ByteArray → Value), w.ownsMap Tryd.prog 9 rawR B n D ∧ Maps.IsMap D ∧
    (∀ k : ByteArray, D.atKey (.string k.data.toList) (.held nilV) = .held (val k)) ∧
    (∀ k, w.ownsRow (B + 1) 9 1 (val k) (valsOf fs k).length (valsOf fs k)) ∧
    (∀ k k', k ≠ k' → (val k).ownBlock = none ∨ (val k).ownBlock ≠ (val k').ownBlock) ∧ (∀ k, (val k).ownBlock = none ∨ (val k).ownBlock ≠ ob)

theorem keyOf_str (s : ByteArray) (h : s.size ≤ maxLen) : keyOf Tryd.prog 9 (.string s) = some (.string s.data.toList) := keyOf_string_mk Tryd.underlying9 h
theorem keyedStr : Keyed Tryd.prog 9 := string_keyed Tryd.underlying9

theorem ownsMap_at {w w' : World} {k : TypeId} {R : Value → Option (DataW Value × List MemPlace)} {B n : Nat} {D : DataW Value} (h : w.ownsMap Tryd.prog k R B n D) (hb : w'.heap[B]? = w.heap[B]?) : w'.ownsMap Tryd.prog k R B n D := by
  obtain ⟨es, clock, h1, h2⟩ := h
  exact ⟨es, clock, hb.trans h1, h2⟩

theorem HdrX.made (w : World) (ob : Option Nat) : HdrX (w.alloc (.map #[] 0)) w.heap.size 0 [] ob :=
  ⟨.map [], fun _ => nilV, World.ownsMap_made w Tryd.prog 9 rawR, Maps.isMap_empty, fun k => by simp [DataW.atKey], fun k => World.ownsRow_nil _ _ _ _, fun _ _ _ => .inl rfl, fun _ => .inl rfl⟩

theorem ownsRow_only {w w' : World} {base : Nat} {e : TypeId} {size : Nat} {v : Value} {n : Nat} {xs : List Value} {L : List Nat} (h : w.ownsRow base e size v n xs) (k : Only L w w') (hL : ∀ g, v.ownBlock = some g → g ∉ L) : w'.ownsRow base e size v n xs := by
  refine ⟨h.1, ?_⟩
  rcases h.2 with h0 | ⟨g, cap, cur, rfl, hB, hg, rest⟩
  · exact .inl h0
  · exact .inr ⟨g, cap, cur, rfl, hB, (k.kept g (Array.getElem?_eq_some_iff.1 hg).1 (hL g rfl)).trans hg, rest⟩
theorem ownsMap_lt {w : World} {k : TypeId} {R : Value → Option (DataW Value × List MemPlace)} {B n : Nat} {D : DataW Value} (h : w.ownsMap Tryd.prog k R B n D) : B < w.heap.size := h.lt

/-- The reader has read on; its buffer may lie in new memory. -/
theorem HdrX.read {T B n : Nat} {fs : List (ByteArray × ByteArray)} {c : BR} {bv0 bv : Value} {w w' : World} (h : HdrX w B n fs bv0.ownBlock) (k : Only (T :: c.own ++ bv0.ownBlock.toList) w w') (hT : T < B) (hc : ∀ x, x ∈ c.own → x < B) (hb : ∀ g, bv0.ownBlock = some g → B < g) (hW : Wh bv0 w.heap.size bv) : HdrX w' B n fs bv.ownBlock := by
  obtain ⟨D, val, hown, hIs, hat, hrow, hap, hav⟩ := h
  have hin : ∀ x, x ∈ T :: c.own ++ bv0.ownBlock.toList → x < B ∨ bv0.ownBlock = some x := fun x hx => by
    rcases List.mem_append.1 hx with hx | hx
    · rcases List.mem_cons.1 hx with rfl | hx
      · exact .inl hT
      · exact .inl (hc x hx)
    · exact .inr (Option.mem_toList.1 hx)
  refine ⟨D, val, ownsMap_at hown (k.kept B hown.lt (fun hx => ?_)), hIs, hat, fun x => ownsRow_only (hrow x) k (fun g hg hx => ?_), hap, fun x => ?_⟩
  · rcases hin B hx with h1 | h1
    · omega
    · have := hb B h1; omega
  · have h2 := ((hrow x).lt g hg).1
    rcases hin g hx with h1 | h1
    · omega
    · rcases hav x with h3 | h3
      · rw [h3] at hg; cases hg
      · exact h3 (hg.trans h1.symm)
  · rcases hW with h1 | ⟨g, h1, hg⟩
    · rw [h1]; exact hav x
    · rw [h1]
      cases hv : (val x).ownBlock with
      | none => exact .inl rfl
      | some g2 =>
        right
        intro e
        have := ((hrow x).lt g2 hv).2
        injection e with e
        omega
/-- The world has grown. -/
theorem HdrX.below {B n : Nat} {fs : List (ByteArray × ByteArray)} {ob : Option Nat} {w w' : World} (h : HdrX w B n fs ob) (k : Only [] w w') : HdrX w' B n fs ob := by
  obtain ⟨D, val, hown, hIs, hat, hrow, hap, hav⟩ := h
  exact ⟨D, val, ownsMap_at hown (k.kept B hown.lt (by simp)), hIs, hat, fun x => ownsRow_only (hrow x) k (fun g _ => by simp), hap, hav⟩

/-- What a step of the loop leaves. -/
theorem HdrX.step {w w1 w2 : World} {B n : Nat} {fs : List (ByteArray × ByteArray)} {D : DataW Value} {val : ByteArray → Value} {k v : ByteArray} {v' : Value} {ob : Option Nat}
    (hIs : Maps.IsMap D) (hat : ∀ k : ByteArray, D.atKey (.string k.data.toList) (.held nilV) = .held (val k))
    (hrow : ∀ k, w.ownsRow (B + 1) 9 1 (val k) (valsOf fs k).length (valsOf fs k)) (hap : ∀ k k', k ≠ k' → (val k).ownBlock = none ∨ (val k).ownBlock ≠ (val k').ownBlock)
    (hg1 : w.grownBy w1 (val k).ownBlock) (hown1 : w1.ownsRow (B + 1) 9 1 v' ((valsOf fs k).length + 1) (valsOf fs k ++ [.string v]))
    (hwhere : v'.ownBlock = (val k).ownBlock ∨ ∃ g, v'.ownBlock = some g ∧ w.heap.size ≤ g)
    (hav : ∀ k, (val k).ownBlock = none ∨ (val k).ownBlock ≠ ob) (hob : ∀ g, ob = some g → g < w.heap.size)
    (hmap : w2.ownsMap Tryd.prog 9 rawR B (n + 1) (D.put (.string k.data.toList) (.held v'))) (hg2 : w1.grownBy w2 (some B)) : HdrX w2 B (n + 1) (fs ++ [(k, v)]) ob := by
  refine ⟨_, fun x => if x = k then v' else val x, hmap, hIs.put _ _, ?_, ?_, ?_, ?_⟩
  · intro x
    by_cases hx : x = k
    · subst hx
      simp only [if_true]
      exact Maps.atKey_put_same hIs (by trivial) _ _
    · simp only [if_neg hx]
      rw [Maps.atKey_put_other (fun e => hx (by
        injection e with e
        rw [← list_mkB x, ← list_mkB k, e]))]
      exact hat x
  · intro x
    by_cases hx : x = k
    · subst hx
      simp only [if_true]
      rw [valsOf_snoc_same, List.length_append, List.length_singleton]
      refine hown1.kept hg2 ?_
      rcases (lt_or hown1) with h | ⟨g, h, hb⟩
      · exact .inl h
      · exact .inr (by rw [h]; simp; omega)
    · simp only [if_neg hx]
      rw [valsOf_snoc_other _ _ _ _ (fun e => hx e.symm)]
      have h1 := (hrow x).kept hg1 (hap x k hx)
      refine h1.kept hg2 ?_
      rcases (lt_or h1) with h | ⟨g, h, hb⟩
      · exact .inl h
      · exact .inr (by rw [h]; simp; omega)
  · intro x y hxy
    by_cases hx : x = k
    · subst hx
      simp only [if_true]
      rw [if_neg (fun e => hxy e.symm)]
      rcases hwhere with h | ⟨g, h, hb⟩
      · rw [h]; exact hap x y hxy
      · right
        rw [h]
        intro e
        have := ((hrow y).lt g e.symm).2
        omega
    · simp only [if_neg hx]
      by_cases hy : y = k
      · subst hy
        simp only [if_true]
        rcases hwhere with h | ⟨g, h, hb⟩
        · rw [h]; exact hap x y hxy
        · rcases (lt_or (hrow x)) with h1 | ⟨g1, h1, _⟩
          · exact .inl h1
          · right
            rw [h, h1]
            intro e
            have := ((hrow x).lt g1 h1).2
            injection e with e
            omega
      · simp only [if_neg hy]
        exact hap x y hxy

  · intro x
    by_cases hx : x = k
    · subst hx
      simp only [if_true]
      rcases hwhere with h | ⟨g, h, hb⟩
      · rw [h]; exact hav x
      · right
        rw [h]
        intro e
        have := hob g e.symm
        omega
    · simp only [if_neg hx]
      exact hav x

theorem below_row {B : Nat} {w w' : World} {row : Option Nat} (h : w.grownBy w' row) (hr : ∀ g, row = some g → B ≤ g) (hB : B ≤ w.heap.size) : Below B w w' :=
  ⟨h.os, h.tape, h.output, h.size, fun k hk => h.block k (by omega) (fun e => by have := hr k e.symm; omega)⟩
theorem infoString : (Tryd.prog.info? 9).map (fun i => (i.zero, i.size, i.bytes)) = some (some (.string ⟨#[]⟩), 1, 16) := by kernel_rfl

/-- The map and its rows have changed, the reader's things have not. -/
theorem TpAt.only2 {T B : Nat} {c : BR} {bv : Value} {l : List UInt8} {w w' : World} {L : List Nat} (h : TpAt T B c bv l w) (k : Only L w w') (hT : T ∉ L) (hb : ∀ g, bv.ownBlock = some g → g ∉ L) : TpAt T B c bv l w' :=
  ⟨h.ob.only k hT, ownsRow_only h.own k hb, h.lo, h.tn, h.tb, Nat.le_trans h.sz k.size⟩
end Go.Proofs.YtddnjdapdcopgaaDoor
