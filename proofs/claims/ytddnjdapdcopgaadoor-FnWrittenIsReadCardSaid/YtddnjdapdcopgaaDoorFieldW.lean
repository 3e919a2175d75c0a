/- Rows of fields (two texts each) that the call itself has made; a map's fields in the order of their keys, gathered key by key. -/
import Derived.Test.YtddnjdapdcopgaaDoorClone
import Derived.Maps.RangeWalk
import Derived.Maps.AppendAt
namespace Go.Proofs.YtddnjdapdcopgaaDoor
open Go.RowKit
open Go.Maps (Keyed)
open Go.ChangeMaps Go.Maps Go.WideMaps

/-- A type of fields and that of its slices. -/
structure FT (ts t : TypeId) : Prop where
  und : Tryd.prog.underlying ts = some (.slice t)
  info : (Tryd.prog.info? t).map (fun i => (i.zero, i.size, i.bytes)) = some (some (.agg #[.string ⟨#[]⟩, .string ⟨#[]⟩]), 2, 32)
theorem ftI : FT 23 55 := ⟨Tryd.underlying23, by kernel_rfl⟩
theorem ftS : FT 26 39 := ⟨Tryd.underlying26, by kernel_rfl⟩
theorem ftP : FT 58 62 := ⟨Tryd.underlying58, by kernel_rfl⟩

/-- The cells of fields. -/
def fcells : List (ByteArray × ByteArray) → List Value
  | [] => []
  | p :: r => .string p.1 :: .string p.2 :: fcells r
theorem fcells_length : ∀ L, (fcells L).length = L.length * 2
  | [] => rfl
  | p :: r => by simp [fcells, fcells_length r]; omega
theorem fcells_app : ∀ L M, fcells (L ++ M) = fcells L ++ fcells M
  | [], M => rfl
  | p :: r, M => by simp [fcells, fcells_app r M]
theorem fcells_one : ∀ L, ∀ u ∈ fcells L, u.oneCell' = true
  | [], u, hu => by cases hu
  | p :: r, u, hu => by
    simp only [fcells, List.mem_cons] at hu
    rcases hu with rfl | rfl | hu
    · rfl
    · rfl
    · exact fcells_one r u hu
theorem fcells_get : ∀ (L : List (ByteArray × ByteArray)) (j : Nat) (p : ByteArray × ByteArray), L[j]? = some p → (fcells L)[j * 2]? = some (.string p.1) ∧ (fcells L)[j * 2 + 1]? = some (.string p.2)
  | [], j, p, h => by simp at h
  | q :: r, 0, p, h => by
    simp at h; subst h
    exact ⟨rfl, rfl⟩
  | q :: r, j + 1, p, h => by
    rw [List.getElem?_cons_succ] at h
    have := fcells_get r j p h
    rw [show (j + 1) * 2 = j * 2 + 1 + 1 by omega]
    exact this
theorem fcells_take : ∀ (L : List (ByteArray × ByteArray)) (i : Nat), fcells (L.take i) = (fcells L).take (i * 2)
  | [], i => by simp [fcells]
  | p :: r, 0 => by simp [fcells]
  | p :: r, i + 1 => by
    rw [List.take_succ_cons, show (i + 1) * 2 = i * 2 + 1 + 1 by omega]
    simp only [fcells, List.take_succ_cons, fcells_take r i]
theorem fcells_drop : ∀ (L : List (ByteArray × ByteArray)) (i : Nat), fcells (L.drop i) = (fcells L).drop (i * 2)
  | [], i => by simp [fcells]
  | p :: r, 0 => by simp [fcells]
  | p :: r, i + 1 => by
    rw [List.drop_succ_cons, show (i + 1) * 2 = i * 2 + 1 + 1 by omega]
    simp only [fcells, List.drop_succ_cons, fcells_drop r i]

/-- The slice v holds the fields L, in a block of the call's own. -/
def OwnF (t : TypeId) (B : Nat) (v : Value) (L : List (ByteArray × ByteArray)) (w : World) : Prop := w.ownsRow B t 2 v L.length (fcells L)

theorem OwnF.nil (t : TypeId) (B : Nat) (w : World) : OwnF t B (.slice none 0 0) [] w := World.ownsRow_nil w B _ _
theorem OwnF.kept {t : TypeId} {B : Nat} {v : Value} {L : List (ByteArray × ByteArray)} {w w' : World} {row : Option Nat} (h : OwnF t B v L w) (hg : w.grownBy w' row) (hr : v.ownBlock = none ∨ v.ownBlock ≠ row) : OwnF t B v L w' :=
  World.ownsRow.kept h hg hr
theorem OwnF.only {t : TypeId} {B : Nat} {v : Value} {L : List (ByteArray × ByteArray)} {w w' : World} {M : List Nat} (h : OwnF t B v L w) (k : Only M w w') (hM : ∀ g, v.ownBlock = some g → g ∉ M) : OwnF t B v L w' :=
  ownsRow_only h k hM
theorem OwnF.lo {t : TypeId} {B : Nat} {v : Value} {L : List (ByteArray × ByteArray)} {w : World} (h : OwnF t B v L w) : ∀ g, v.ownBlock = some g → B ≤ g ∧ g < w.heap.size := World.ownsRow.lt h
/-- Its shape. -/
theorem OwnF.row {t : TypeId} {B : Nat} {v : Value} {L : List (ByteArray × ByteArray)} {w : World} (h : OwnF t B v L w) : (v = .slice none 0 0 ∧ L = []) ∨ ∃ g cap, v = .slice (some ⟨g, 0, none⟩) L.length cap ∧ B ≤ g ∧ g < w.heap.size ∧ L.length ≤ cap ∧ cap ≤ maxLen := by
  rcases h.2 with ⟨rfl, h0⟩ | ⟨g, cap, cur, rfl, hB, hg, hn, hc, _⟩
  · exact .inl ⟨rfl, List.length_eq_zero_iff.1 h0⟩
  · exact .inr ⟨g, cap, rfl, hB, (Array.getElem?_eq_some_iff.1 hg).1, hn, hc⟩
/-- Shrunk. -/
theorem OwnF.shrink {t : TypeId} {B n cap : Nat} {a : Option Addr} {L : List (ByteArray × ByteArray)} {w : World} (h : OwnF t B (.slice a n cap) L w) (i : Nat) (hi : i ≤ L.length) : OwnF t B (.slice a i cap) (L.take i) w := by
  unfold OwnF at h ⊢
  rw [List.length_take, Nat.min_eq_left hi, fcells_take]
  refine ⟨by rw [List.length_take, fcells_length]; omega, ?_⟩
  rcases h.2 with ⟨h0, h1⟩ | ⟨g, c2, cur, h1, hB, hg, hn, hc, hsz, htk⟩
  · injection h0 with h2 h3 h4
    subst h2; subst h4
    obtain rfl : i = 0 := by omega
    exact .inl ⟨rfl, rfl⟩
  · injection h1 with h2 h3 h4
    subst h2; subst h4
    refine .inr ⟨g, cap, cur, rfl, hB, hg, by omega, hc, hsz, ?_⟩
    rw [← htk, List.take_take, Nat.min_eq_left (by omega)]
/-- Its cells. -/
theorem OwnF.cells {t : TypeId} {B g n cap : Nat} {L : List (ByteArray × ByteArray)} {w : World} (h : OwnF t B (.slice (some ⟨g, 0, none⟩) n cap) L w) (j : Nat) (u : Value) (hj : (fcells L)[j]? = some u) : w.cell? ⟨g, j, none⟩ = some u := by
  have := World.ownsRow.cells h rfl j u hj
  have e : (⟨g, 0, none⟩ : Addr).add j = ⟨g, j, none⟩ := by unfold Addr.add; split <;> simp_all
  rwa [e] at this

theorem add_at (g a j : Nat) : (⟨g, a, none⟩ : Addr).add j = ⟨g, a + j, none⟩ := by
  unfold Addr.add
  split
  · rename_i h; rw [h, Nat.add_zero]
  · rfl

/-- append(fields, more...): the source's cells lie anywhere. -/
theorem wpList_append_f {ts t : TypeId} (F : FT ts t) {ops : Array Oper} {rest : List Oper} {o : Oper} {a : Act} {Q : Exit → Act → World → Prop} (hgd : o.guard = none) (s x : Operand)
    (ho : o.op = .call { callee := .builtin .append, args := #[s, x], argTypes := #[ts, ts] })
    (B : Nat) (v : Value) (L M : List (ByteArray × ByteArray)) (ad : Addr) (n cap : Nat) (w0 : World) (hs : a.eval s = v) (hown : OwnF t B v L w0) (hx : a.eval x = .slice (some ad) n cap) (hM : M.length = n)
    (hc : ∀ j u, (fcells M)[j]? = some u → w0.cell? (ad.add j) = some u) (hlen : L.length + n ≤ 4000000000) (hB : B ≤ w0.heap.size)
    (h : ∀ v' w', Hid (OwnF t B v' (L ++ M) w') → Hid (w0.grownBy w' v.ownBlock) → Hid (v'.ownBlock = v.ownBlock ∨ v'.ownBlock = some w0.heap.size) → wpList Tryd.prog ops Q rest (a.put o.dst v') w') : wpList Tryd.prog ops Q (o :: rest) a w0 := by
  obtain ⟨i0, hi, hz0, hz1, hz2⟩ := info_parts F.info
  subst hM
  refine wpList_append_own_at _ hgd s x ts ho B t i0 _ 2 32 F.und hi hz0 hz1 hz2 rfl (by decide) v L.length (fcells L) hs hown ad M.length cap (fcells M) hx (fcells_length M) hc (fcells_one M) ?_ ?_ hB ?_
  · unfold maxLen; omega
  · omega
  · intro v' w' ho' hg' _ hat
    refine h v' w' ?_ hg' hat
    show OwnF t B v' (L ++ M) w'
    unfold OwnF
    rw [fcells_app, List.length_append]
    exact ho'
/-- append(fields, more...) of nil. -/
theorem wpList_append_f0 {ts t : TypeId} (F : FT ts t) {ops : Array Oper} {rest : List Oper} {o : Oper} {a : Act} {Q : Exit → Act → World → Prop} (hgd : o.guard = none) (s x : Operand)
    (ho : o.op = .call { callee := .builtin .append, args := #[s, x], argTypes := #[ts, ts] })
    (B : Nat) (v : Value) (L : List (ByteArray × ByteArray)) (w0 : World) (hs : a.eval s = v) (hown : OwnF t B v L w0) (hx : a.eval x = .slice none 0 0)
    (h : wpList Tryd.prog ops Q rest (a.put o.dst v) w0) : wpList Tryd.prog ops Q (o :: rest) a w0 := by
  obtain ⟨i0, hi, hz0, hz1, hz2⟩ := info_parts F.info
  refine wpList_plain hgd fun K hK => ?_
  have hrun := run_append_owned_none (P := Tryd.prog) (w := w0) B ts o.type t i0 2 F.und hi v L.length (fcells L) hown
  unfold Oper.wp
  simp [execOp, ho, resolve, invoke, builtin, hs, hx, hrun, Result.andThen]
  exact hK _ _ h

/-- A key, as the map has it. -/
def litK (k : ByteArray) : Lit := .string k.data.toList
theorem litK_inj {a b : ByteArray} (h : litK a = litK b) : a = b := by
  unfold litK at h
  injection h with h
  rw [← list_mkB a, ← list_mkB b, h]
/-- Where the gathering stands: L has the fields of the keys that are no longer to come. -/
structure FMid (r : Nat) (fs : List (ByteArray × ByteArray)) (left : Lit → Bool) (L : List (ByteArray × ByteArray)) (v : Value) (w wr : World) : Prop where
  own : OwnF 55 (r + 1) v L wr
  bel : Below r w wr
  sz : r + 1 ≤ wr.heap.size
  srt : SortedK L
  fil : ∀ k, filK L k = if left (litK k) then [] else filK fs k
  len : L.length = (fs.filter (fun p => !left (litK p.1))).length
theorem FMid.le {r : Nat} {fs L : List (ByteArray × ByteArray)} {left : Lit → Bool} {v : Value} {w wr : World} (h : FMid r fs left L v w wr) : L.length ≤ fs.length := by
  rw [h.len]; exact List.length_filter_le _ _

/-- A map of fields, read. -/
theorem val_of_has {D : DataW Value} {val : ByteArray → Value} {fs : List (ByteArray × ByteArray)} {w : World} {B : Nat} (hat : ∀ k : ByteArray, D.atKey (.string k.data.toList) (.held nilV) = .held (val k)) (hrow : ∀ k, w.ownsRow B 9 1 (val k) (valsOf fs k).length (valsOf fs k))
    (k : ByteArray) (h : Maps.has D (litK k) = false) : filK fs k = [] := by
  have h1 := Maps.atKey_of_not_has h (.held nilV)
  have h2 := hat k
  rw [show Lit.string k.data.toList = litK k from rfl, h1] at h2
  injection h2 with h2
  have h3 := hrow k
  rw [← h2] at h3
  rcases h3.2 with ⟨_, h4⟩ | ⟨g, cap, cur, h4, _⟩
  · unfold valsOf at h4
    rw [List.length_map] at h4
    exact List.eq_nil_of_length_eq_zero h4
  · cases h4
theorem FMid.start {D : DataW Value} {val : ByteArray → Value} {fs : List (ByteArray × ByteArray)} {w w4 : World} {B : Nat} (hat : ∀ k : ByteArray, D.atKey (.string k.data.toList) (.held nilV) = .held (val k)) (hrow : ∀ k, w.ownsRow B 9 1 (val k) (valsOf fs k).length (valsOf fs k))
    (hg : w.grownBy w4 none) (hs : w4.heap.size = w.heap.size + 1) : FMid w.heap.size fs (Maps.has D) [] (.slice none 0 0) w w4 := by
  have h0 : ∀ p ∈ fs, Maps.has D (litK p.1) = true := fun p hp => by
    cases h : Maps.has D (litK p.1) with
    | true => rfl
    | false =>
      have h1 := val_of_has hat hrow p.1 h
      have h2 := filK_mem hp
      rw [h1] at h2
      cases h2
  refine ⟨OwnF.nil _ _ _, ⟨hg.os, hg.tape, hg.output, hg.size, fun k hk => hg.block k hk (by simp)⟩, by omega, List.Pairwise.nil, fun k => ?_, ?_⟩
  · cases h : Maps.has D (litK k) with
    | true => rfl
    | false => rw [val_of_has hat hrow k h]; rfl
  · symm
    rw [List.length_nil, List.length_eq_zero_iff, List.filter_eq_nil_iff]
    intro p hp
    rw [h0 p hp]; decide
/-- One key more. -/
theorem FMid.len_step (fs : List (ByteArray × ByteArray)) (left : Lit → Bool) (k : ByteArray) (hk : left (litK k) = true) :
    (fs.filter (fun p => !(left (litK p.1) && !(litK p.1).sameKey (litK k)))).length = (fs.filter (fun p => !left (litK p.1))).length + (filK fs k).length := by
  induction fs with
  | nil => rfl
  | cons p r ih =>
    unfold filK at ih ⊢
    by_cases h : p.1 = k
    · have e1 : (litK p.1).sameKey (litK k) = true := by rw [h]; exact WideAt.sameKey_self (by trivial)
      rw [List.filter_cons_of_pos (by rw [e1]; simp), List.filter_cons_of_neg (by rw [h, hk]; decide), List.filter_cons_of_pos (by simpa using h), List.length_cons, List.length_cons, ih]
      omega
    · have e1 : (litK p.1).sameKey (litK k) = false := Maps.sameKey_ne (fun e => h (litK_inj e))
      rw [List.filter_cons_of_neg (p := fun q : ByteArray × ByteArray => decide (q.1 = k)) (by simpa using h)]
      cases hl : left (litK p.1) with
      | true =>
        rw [List.filter_cons_of_neg (by rw [e1, hl]; decide), List.filter_cons_of_neg (by rw [hl]; decide)]
        exact ih
      | false =>
        rw [List.filter_cons_of_pos (by rw [hl]; rfl), List.filter_cons_of_pos (by rw [hl]; rfl), List.length_cons, List.length_cons, ih]
        omega
theorem FMid.step {r i : Nat} {fs L : List (ByteArray × ByteArray)} {left : Lit → Bool} {v v' : Value} {w wr wn : World} {k : ByteArray} {vs : List ByteArray} (h : FMid r fs left L v w wr) (hk : left (litK k) = true) (hvs : (filK fs k) = vs.map (fun x => (k, x))) (hp : PlaceK L k i)
    (ho : OwnF 55 (r + 1) v' (insK L i k vs) wn) (hb : Below r w wn) (hs : r + 1 ≤ wn.heap.size) : FMid r fs (fun z => left z && !z.sameKey (litK k)) (insK L i k vs) v' w wn := by
  refine ⟨ho, hb, hs, insK_sorted h.srt hp, fun k' => ?_, ?_⟩
  · by_cases hkk : k = k'
    · subst hkk
      have e1 : (litK k).sameKey (litK k) = true := WideAt.sameKey_self (by trivial)
      show _ = if (left (litK k) && !(litK k).sameKey (litK k)) = true then [] else _
      rw [insK_same hp, h.fil, if_pos hk, e1, hvs]
      simp
    · have e1 : (litK k').sameKey (litK k) = false := Maps.sameKey_ne (fun e => hkk (litK_inj e).symm)
      show _ = if (left (litK k') && !(litK k').sameKey (litK k)) = true then [] else _
      rw [insK_other hkk, h.fil, e1]
      simp
  · rw [FMid.len_step fs left k hk, ← h.len, hvs]
    unfold insK
    rw [List.length_append, List.length_append]
    have := hp.1
    rw [List.length_take, List.length_drop]
    omega

theorem OwnF.form {t : TypeId} {B : Nat} {v : Value} {L : List (ByteArray × ByteArray)} {w : World} (h : OwnF t B v L w) : ∃ a cap, v = .slice a L.length cap := by
  rcases h.row with ⟨rfl, rfl⟩ | ⟨g, cap, rfl, _⟩
  · exact ⟨_, _, rfl⟩
  · exact ⟨_, _, rfl⟩
theorem rowForm {w : World} {base : Nat} {e : TypeId} {size n : Nat} {v : Value} {xs : List Value} (h : w.ownsRow base e size v n xs) : ∃ a cap, v = .slice a n cap := by
  rcases h.2 with ⟨rfl, rfl⟩ | ⟨g, cap, cur, rfl, _⟩
  · exact ⟨_, _, rfl⟩
  · exact ⟨_, _, rfl⟩
/-- What an entry of the map is. -/
theorem entry_of {D : DataW Value} {val : ByteArray → Value} {fs : List (ByteArray × ByteArray)} {w : World} {B : Nat} (hat : ∀ k : ByteArray, D.atKey (.string k.data.toList) (.held nilV) = .held (val k)) (hrow : ∀ k, w.ownsRow B 9 1 (val k) (valsOf fs k).length (valsOf fs k))
    {x : ByteArray} {c : Value} {kl : Lit} {y : DataW Value} {ps : List MemPlace} (hkey : keyOf Tryd.prog 9 (.string x) = some kl) (hv : rawR c = some (y, ps)) (ha : ∀ zd, D.atKey kl zd = y) :
    kl = litK x ∧ x.size ≤ maxLen ∧ w.ownsRow B 9 1 c (valsOf fs x).length (valsOf fs x) := by
  obtain ⟨s, h1, h2, h3⟩ := string_of_keyOf Tryd.underlying9 hkey
  injection h1 with h1
  subst h1
  refine ⟨h2, h3, ?_⟩
  injection hv with hv
  injection hv with hv _
  subst hv
  have h4 := ha (.held nilV)
  rw [h2, hat x] at h4
  injection h4 with h4
  rw [← h4]
  exact hrow x
theorem valsOf_vals (fs : List (ByteArray × ByteArray)) (k : ByteArray) : valsOf fs k = ((filK fs k).map (fun p => p.2)).map Value.string := by
  simp [valsOf, filK]
theorem filK_pairs (fs : List (ByteArray × ByteArray)) (k : ByteArray) : filK fs k = ((filK fs k).map (fun p => p.2)).map (fun x => (k, x)) := by
  rw [List.map_map]
  conv => lhs; rw [← List.map_id (filK fs k)]
  apply List.map_congr_left
  intro p hp
  have := (List.mem_filter.1 hp).2
  simp only [decide_eq_true_eq] at this
  rw [← this]; rfl

/-- The cells of the fields from place i on. -/
theorem OwnF.cellsFrom {t : TypeId} {B g n cap : Nat} {L : List (ByteArray × ByteArray)} {w : World} (h : OwnF t B (.slice (some ⟨g, 0, none⟩) n cap) L w) (i : Nat) : ∀ j u, (fcells (L.drop i))[j]? = some u → w.cell? ((⟨g, i * 2, none⟩ : Addr).add j) = some u := by
  intro j u hj
  rw [add_at]
  refine h.cells _ _ ?_
  rw [fcells_drop, List.getElem?_drop] at hj
  exact hj

/-- Inside a round: the fields so far (A), the tail that is put behind them. -/
structure VMid (M n : Nat) (D : DataW Value) (left : Lit → Bool) (cnt : Nat) (tail : Value) (T : List (ByteArray × ByteArray)) (w : World) (v : Value) (A : List (ByteArray × ByteArray)) (wd : World) : Prop where
  rg : wd.ranges Tryd.prog 9 rawR M w.heap.size n D left cnt
  own : OwnF 55 (w.heap.size + 1) v A wd
  tl : OwnF 55 (w.heap.size + 1) tail T wd
  ap : ∀ g, v.ownBlock = some g → tail.ownBlock ≠ some g
  bel : Below w.heap.size w wd
  sz : w.heap.size + 1 ≤ wd.heap.size
  mlt : M < w.heap.size
/-- More is appended; o is laid ahead of it. -/
theorem VMid.app {M n : Nat} {D : DataW Value} {left : Lit → Bool} {cnt : Nat} {tail : Value} {T : List (ByteArray × ByteArray)} {w : World} {v v' : Value} {A A' : List (ByteArray × ByteArray)} {wd w' : World} (h : VMid M n D left cnt tail T w v A wd) (W : World) (hW : wd.grownBy W none)
    (hg : W.grownBy w' v.ownBlock) (ho : OwnF 55 (w.heap.size + 1) v' A' w') (hat : v'.ownBlock = v.ownBlock ∨ v'.ownBlock = some W.heap.size) : VMid M n D left cnt tail T w v' A' w' := by
  have hlo : ∀ g, v.ownBlock = some g → w.heap.size + 1 ≤ g := fun g hg => (h.own.lo g hg).1
  have hne : some M ≠ v.ownBlock ∧ some w.heap.size ≠ v.ownBlock := ⟨fun e => by have := hlo M e.symm; have := h.mlt; omega, fun e => by have := hlo _ e.symm; omega⟩
  refine ⟨((h.rg.kept hW (by simp) (by simp)).kept hg hne.1 hne.2), ho, ?_, ?_, ?_, ?_, h.mlt⟩
  · refine (h.tl.kept hW ?_).kept hg ?_
    · cases tail.ownBlock with
      | none => exact .inl rfl
      | some g => right; simp
    · cases hv : v.ownBlock with
      | none =>
        cases tail.ownBlock with
        | none => exact .inl rfl
        | some g => right; simp
      | some g => exact .inr (h.ap g hv)
  · intro g hg2
    rcases hat with h1 | h1
    · exact h.ap g (by rw [← h1]; exact hg2)
    · rw [hg2] at h1
      intro e
      have h3 := (h.tl.lo g e).2
      have h4 := hW.size
      injection h1 with h1
      omega
  · have k1 : Below w.heap.size wd W := ⟨hW.os, hW.tape, hW.output, hW.size, fun k hk => hW.block k (by have := h.bel.size; omega) (by simp)⟩
    have k2 : Below w.heap.size W w' := ⟨hg.os, hg.tape, hg.output, hg.size, fun k hk => hg.block k (by have := h.bel.size; have := hW.size; omega) (fun e => by have := hlo k e.symm; omega)⟩
    exact (h.bel.trans k1).trans k2
  · have := hW.size; have := hg.size; have := h.sz; omega

theorem VMid.vals {M n q : Nat} {D : DataW Value} {left : Lit → Bool} {cnt : Nat} {tail : Value} {T : List (ByteArray × ByteArray)} {w : World} {v : Value} {A : List (ByteArray × ByteArray)} {wd : World} {ca : Option Addr} {cc : Nat} {xs : List Value} {B : Nat} (h : VMid M n D left cnt tail T w v A wd) (hr : w.ownsRow B 9 1 (.slice ca q cc) q xs) (j : Nat) (u : Value) (hj : xs[j]? = some u) :
    ∃ g, ca = some ⟨g, 0, none⟩ ∧ wd.cell? ⟨g, j, none⟩ = some u := by
  have h1 := hr
  rcases hr.2 with ⟨_, h0⟩ | ⟨g, cap, cur, h0, _, hg, _⟩
  · rw [h0] at h1
    have := h1.1
    rw [Nat.zero_mul] at this
    rw [List.eq_nil_of_length_eq_zero this] at hj
    cases hj
  · injection h0 with h2 _ _
    subst h2
    refine ⟨g, rfl, ?_⟩
    have h3 := World.ownsRow.cells h1 rfl j u hj
    rw [add_at, Nat.zero_add] at h3
    exact (World.cell?_of_block (h.bel.block g (Array.getElem?_eq_some_iff.1 hg).1)).trans h3

theorem OwnF.base {t : TypeId} {B B' : Nat} {v : Value} {L : List (ByteArray × ByteArray)} {w : World} (h : OwnF t B v L w) (hB : B' ≤ B) : OwnF t B' v L w := by
  refine ⟨h.1, ?_⟩
  rcases h.2 with h0 | ⟨g, cap, cur, h0, h1, rest⟩
  · exact .inl h0
  · exact .inr ⟨g, cap, cur, h0, Nat.le_trans hB h1, rest⟩
theorem OwnB.base {B B' : Nat} {v : Value} {l : List UInt8} {w : World} (h : OwnB B v l w) (hB : B' ≤ B) : OwnB B' v l w := by
  refine ⟨h.1, ?_⟩
  rcases h.2 with h0 | ⟨g, cap, cur, h0, h1, rest⟩
  · exact .inl h0
  · exact .inr ⟨g, cap, cur, h0, Nat.le_trans hB h1, rest⟩
theorem method_br (a : Addr) (w : World) : (method 225 66 (.pointer (some a)) "Read").run Tryd.prog w = .ok (71, .pointer (some a)) w := by kernel_rfl
/-- The body is being read: pre has been gathered, st is still to come. -/
structure BMid (Mb M : Nat) (c : BR) (r B : Nat) (fv : Value) (L : List (ByteArray × ByteArray)) (w : World) (bv : Value) (pre st : List UInt8) (wr : World) : Prop where
  own : OwnB B bv pre wr
  bq : BufQ c st wr
  ob : Ob wr Mb 54 [.map (some M), .iface 66 (.pointer (some ⟨c.R, 0, none⟩))]
  fo : OwnF 55 (r + 1) fv L wr
  k : Only [] w wr
  lw : w.heap.size ≤ c.R ∧ w.heap.size ≤ c.F ∧ w.heap.size ≤ B ∧ w.heap.size ≤ c.S
  sz : B ≤ wr.heap.size
  lo : (∀ x, x ∈ c.all → x < r) ∧ r < B
  fl : ∀ g, fv.ownBlock = some g → g < B
theorem BMid.mb {Mb M : Nat} {c : BR} {r B : Nat} {fv : Value} {L : List (ByteArray × ByteArray)} {w : World} {bv : Value} {pre st : List UInt8} {wr : World} (h : BMid Mb M c r B fv L w bv pre st wr) : Mb ∉ c.own := by
  obtain ⟨bf, ri, wi, i, lb, ls, hB, _⟩ := h.bq
  obtain ⟨pv, hs⟩ := hB.sr
  have h1 := h.ob
  have h2 := hB.rd
  have h3 := hB.bb
  intro hx
  simp only [BR.own, List.mem_cons, List.not_mem_nil, or_false] at hx
  unfold Ob at h1 h2 h3 hs
  rcases hx with rfl | rfl | rfl
  · rw [h1] at h2; simp at h2
  · rw [h1] at h3; simp at h3
  · rw [h1] at hs; simp at hs
theorem BMid.start {Mb M : Nat} {c : BR} {fs : List (ByteArray × ByteArray)} {left : Lit → Bool} {L : List (ByteArray × ByteArray)} {fv : Value} {w w3 wr : World} {fin : List UInt8} (h : FMid w3.heap.size fs left L fv w3 wr) (hO : Ob w3 Mb 54 [.map (some M), .iface 66 (.pointer (some ⟨c.R, 0, none⟩))]) (hq : BufQ c fin w3) (hk : Only [] w w3) (hR : w.heap.size ≤ c.R) (hF : w.heap.size ≤ c.F) (hS : w.heap.size ≤ c.S) :
    BMid Mb M c w3.heap.size wr.heap.size fv L w (.slice none 0 0) [] fin wr := by
  have k := Only.of_below h.bel
  refine ⟨OwnB.nil _ _, hq.only k (by simp), hO.only k (by simp), h.own, hk.trans k, ⟨hR, hF, Nat.le_trans hk.size k.size, hS⟩, Nat.le_refl _, ⟨hq.lts, by have := h.sz; omega⟩, fun g hg => (h.own.lo g hg).2⟩
/-- A new row for what is read. -/
theorem BMid.alloc {Mb M : Nat} {c : BR} {r B : Nat} {fv : Value} {L : List (ByteArray × ByteArray)} {w : World} {bv : Value} {pre st : List UInt8} {wr : World} (h : BMid Mb M c r B fv L w bv pre st wr) (o : Obj) : BMid Mb M c r B fv L w bv pre st (wr.alloc o) := by
  have k : Only [] wr (wr.alloc o) := Only.of_below ((Below.refl _ _).alloc (Nat.le_refl _) _)
  exact ⟨ownsRow_only h.own k (by simp), h.bq.only k (by simp), h.ob.only k (by simp), h.fo.only k (by simp), h.k.trans k, h.lw, Nat.le_trans h.sz k.size, h.lo, h.fl⟩
/-- Read has been called, the row G holds what came. -/
theorem BMid.read {Mb M : Nat} {c : BR} {r B G : Nat} {fv : Value} {L : List (ByteArray × ByteArray)} {w : World} {bv : Value} {pre st st' : List UInt8} {wr w' : World} (h : BMid Mb M c r B fv L w bv pre st wr) (hq : BufQ c st' w') (k : Only (G :: c.own) wr w') (hG : r < G) (hM : G ≠ Mb) (hb : bv.ownBlock ≠ some G) (hf : fv.ownBlock ≠ some G) (hGw : w.heap.size ≤ G) : BMid Mb M c r B fv L w bv pre st' w' := by
  have hown : ∀ x, x ∈ c.own → x < r := fun x hx => h.lo.1 x (own_all hx)
  refine ⟨ownsRow_only h.own k (fun g hg hx => ?_), hq, h.ob.only k (fun hx => ?_), h.fo.only k (fun g hg hx => ?_), h.k.fresh k (fun x hx => ?_), h.lw, Nat.le_trans h.sz k.size, h.lo, h.fl⟩
  · rcases List.mem_cons.1 hx with rfl | hx
    · exact hb hg
    · have := (World.ownsRow.lt h.own g hg).1; have := hown g hx; have := h.lo.2; omega
  · rcases List.mem_cons.1 hx with e | hx
    · exact hM e.symm
    · exact h.mb hx
  · rcases List.mem_cons.1 hx with rfl | hx
    · exact hf hg
    · have := (h.fo.lo g hg).1; have := hown g hx; omega
  · rcases List.mem_cons.1 hx with rfl | hx
    · exact .inl hGw
    · simp only [BR.own, List.mem_cons, List.not_mem_nil, or_false] at hx
      rcases hx with rfl | rfl | rfl
      · exact .inl h.lw.1
      · exact .inl h.lw.2.1
      · exact .inl h.lw.2.2.2
/-- What came is appended. -/
theorem BMid.app {Mb M : Nat} {c : BR} {r B : Nat} {fv : Value} {L : List (ByteArray × ByteArray)} {w : World} {bv bv' : Value} {pre pre' st : List UInt8} {wr w' : World} (h : BMid Mb M c r B fv L w bv pre st wr) (hg : wr.grownBy w' bv.ownBlock) (ho : OwnB B bv' pre' w') (hmb : Mb < r) : BMid Mb M c r B fv L w bv' pre' st w' := by
  have k := Only.of_row hg
  have hin : ∀ x, x ∈ bv.ownBlock.toList → B ≤ x := fun x hx => (World.ownsRow.lt h.own x (Option.mem_toList.1 hx)).1
  refine ⟨ho, h.bq.only k (fun x hx hx2 => ?_), h.ob.only k (fun hx => ?_), h.fo.only k (fun g hg hx => ?_), h.k.fresh k (fun x hx => .inl ?_), h.lw, Nat.le_trans h.sz k.size, h.lo, h.fl⟩
  · have := hin x hx; have := h.lo.1 x hx2; have := h.lo.2; omega
  · have := hin _ hx; have := h.lo.2; omega
  · have := hin g hx; have := h.fl g hg; omega
  · have := hin x hx; have := h.lw.2.2.1; omega
theorem nulls_cell {G n : Nat} {st : List UInt8} {w : World} (h : Ob w G 5 (Lib.byteCells (splice (nulls 512) 0 (st.take n)))) (hn : n ≤ st.length) (hn2 : n ≤ 512) : ∀ j c, (st.take n)[j]? = some c → w.cell? ((⟨G, 0, none⟩ : Addr).add j) = some (.int .u8 (c.toNat : Int)) := by
  intro j c hj
  rw [add_at, Nat.zero_add]
  refine h.cell j _ ?_
  have hl : (st.take n).length = n := by rw [List.length_take]; omega
  have hjn : j < n := by
    have := (List.getElem?_eq_some_iff.1 hj).1
    omega
  unfold Lib.byteCells
  rw [List.getElem?_map, splice_get _ _ _ (by rw [hl, nulls_length]; omega), if_neg (by omega), if_pos (by omega), Nat.sub_zero, hj]
  rfl
end Go.Proofs.YtddnjdapdcopgaaDoor
