/- The thin package's 'header': a map from names to the lists of their values, made of fields: the walk. -/
import Derived.Test.YtmneehbhhofabaaCanonKey
import Derived.Maps.OwnOps
import Derived.Maps.Views
import Derived.Deep.RegionHeld3
import Derived.Deep.AppendLies
import Derived.StringKeys
import Derived.Maps.Keyed
namespace Go.Proofs.Ytmneehbhhofabaa
open Go.RowKit
open Go.Maps (Keyed)
open Go.ChangeMaps Go.Maps Go.WideMaps

theorem lt_or {w : World} {base : Nat} {e : TypeId} {size : Nat} {v : Value} {n : Nat} {xs : List Value} (h : w.ownsRow base e size v n xs) : v.ownBlock = none ∨ ∃ g, v.ownBlock = some g ∧ base ≤ g := by
  cases hv : v.ownBlock with
  | none => exact .inl rfl
  | some g => exact .inr ⟨g, rfl, (h.lt g hv).1⟩

/-- A map's element, read as it is. -/
def rawR (v : Value) : Option (DataW Value × List MemPlace) := some (.held v, [])
def nilV : Value := .slice none 0 0

/-- The values under a name, in their order. -/
def valsOf (fs : List (ByteArray × ByteArray)) (k : ByteArray) : List Value := (fs.filter (fun p => decide (p.1 = k))).map (fun p => Value.string p.2)

theorem valsOf_snoc_same (fs : List (ByteArray × ByteArray)) (k v : ByteArray) : valsOf (fs ++ [(k, v)]) k = valsOf fs k ++ [.string v] := by simp [valsOf]
theorem valsOf_snoc_other (fs : List (ByteArray × ByteArray)) (k k' v : ByteArray) (h : k ≠ k') : valsOf (fs ++ [(k, v)]) k' = valsOf fs k' := by simp [valsOf, h]
theorem valsOf_length (fs : List (ByteArray × ByteArray)) (k : ByteArray) : (valsOf fs k).length ≤ fs.length := by
  simp only [valsOf, List.length_map]; exact List.length_filter_le _ _

/-- Block B is the map of the fields fs: under each name a slice of the call's own that holds its values. -/
def Hdr (w : World) (B n : Nat) (fs : List (ByteArray × ByteArray)) : Prop :=
  ∃ (D : DataW Value) (val : ByteArray → Value), w.ownsMap Try.prog 9 rawR B n D ∧ Maps.IsMap D ∧
    (∀ k : ByteArray, D.atKey (.string k.data.toList) (.held nilV) = .held (val k)) ∧
    (∀ k, w.ownsRow (B + 1) 9 1 (val k) (valsOf fs k).length (valsOf fs k)) ∧
    (∀ k k', k ≠ k' → (val k).ownBlock = none ∨ (val k).ownBlock ≠ (val k').ownBlock)

theorem keyOf_str (s : ByteArray) (h : s.size ≤ maxLen) : keyOf Try.prog 9 (.string s) = some (.string s.data.toList) := keyOf_string_mk Try.underlying9 h
theorem keyedStr : Keyed Try.prog 9 := string_keyed Try.underlying9

theorem ownsMap_at {w w' : World} {k : TypeId} {R : Value → Option (DataW Value × List MemPlace)} {B n : Nat} {D : DataW Value} (h : w.ownsMap Try.prog k R B n D) (hb : w'.heap[B]? = w.heap[B]?) : w'.ownsMap Try.prog k R B n D := by
  obtain ⟨es, clock, h1, h2⟩ := h
  exact ⟨es, clock, hb.trans h1, h2⟩

theorem Hdr.made (w : World) : Hdr (w.alloc (.map #[] 0)) w.heap.size 0 [] :=
  ⟨.map [], fun _ => nilV, World.ownsMap_made w Try.prog 9 rawR, Maps.isMap_empty, fun k => by simp [DataW.atKey], fun k => World.ownsRow_nil _ _ _ _, fun _ _ _ => .inl rfl⟩


/-- What a step of the loop leaves. -/
theorem Hdr.step {w w1 w2 : World} {B n : Nat} {fs : List (ByteArray × ByteArray)} {D : DataW Value} {val : ByteArray → Value} {k v : ByteArray} {v' : Value}
    (hIs : Maps.IsMap D) (hat : ∀ k : ByteArray, D.atKey (.string k.data.toList) (.held nilV) = .held (val k))
    (hrow : ∀ k, w.ownsRow (B + 1) 9 1 (val k) (valsOf fs k).length (valsOf fs k)) (hap : ∀ k k', k ≠ k' → (val k).ownBlock = none ∨ (val k).ownBlock ≠ (val k').ownBlock)
    (hg1 : w.grownBy w1 (val k).ownBlock) (hown1 : w1.ownsRow (B + 1) 9 1 v' ((valsOf fs k).length + 1) (valsOf fs k ++ [.string v]))
    (hwhere : v'.ownBlock = (val k).ownBlock ∨ ∃ g, v'.ownBlock = some g ∧ w.heap.size ≤ g)
    (hmap : w2.ownsMap Try.prog 9 rawR B (n + 1) (D.put (.string k.data.toList) (.held v'))) (hg2 : w1.grownBy w2 (some B)) : Hdr w2 B (n + 1) (fs ++ [(k, v)]) := by
  refine ⟨_, fun x => if x = k then v' else val x, hmap, hIs.put _ _, ?_, ?_, ?_⟩
  · intro x
    by_cases hx : x = k
    · subst hx
      simp only [if_true]
      exact Maps.atKey_put_same hIs (by trivial) _ _
    · simp only [if_neg hx]
      rw [Maps.atKey_put_other (fun e => hx (by
        injection e with e
        rw [← list_mkB x, ← list_mkB k, e]))]
      exact hat x
  · intro x
    by_cases hx : x = k
    · subst hx
      simp only [if_true]
      rw [valsOf_snoc_same, List.length_append, List.length_singleton]
      refine hown1.kept hg2 ?_
      rcases (lt_or hown1) with h | ⟨g, h, hb⟩
      · exact .inl h
      · exact .inr (by rw [h]; simp; omega)
    · simp only [if_neg hx]
      rw [valsOf_snoc_other _ _ _ _ (fun e => hx e.symm)]
      have h1 := (hrow x).kept hg1 (hap x k hx)
      refine h1.kept hg2 ?_
      rcases (lt_or h1) with h | ⟨g, h, hb⟩
      · exact .inl h
      · exact .inr (by rw [h]; simp; omega)
  · intro x y hxy
    by_cases hx : x = k
    · subst hx
      simp only [if_true]
      rw [if_neg (fun e => hxy e.symm)]
      rcases hwhere with h | ⟨g, h, hb⟩
      · rw [h]; exact hap x y hxy
      · right
        rw [h]
        intro e
        have := ((hrow y).lt g e.symm).2
        omega
    · simp only [if_neg hx]
      by_cases hy : y = k
      · subst hy
        simp only [if_true]
        rcases hwhere with h | ⟨g, h, hb⟩
        · rw [h]; exact hap x y hxy
        · rcases (lt_or (hrow x)) with h1 | ⟨g1, h1, _⟩
          · exact .inl h1
          · right
            rw [h, h1]
            intro e
            have := ((hrow x).lt g1 h1).2
            injection e with e
            omega
      · simp only [if_neg hy]
        exact hap x y hxy

/-- The first cells of block G are fields, two cells each. -/
def FRow (w : World) (G : Nat) (fs : List (ByteArray × ByteArray)) : Prop :=
  ∀ i p, fs[i]? = some p → w.cell? ⟨G, i * 2, none⟩ = some (.string p.1) ∧ w.cell? ⟨G, i * 2 + 1, none⟩ = some (.string p.2)
theorem FRow.same {w w' : World} {G : Nat} {fs : List (ByteArray × ByteArray)} (h : FRow w G fs) (hb : w'.heap[G]? = w.heap[G]?) : FRow w' G fs := fun i p hi =>
  ⟨(World.cell?_of_block hb).trans (h i p hi).1, (World.cell?_of_block hb).trans (h i p hi).2⟩

theorem below_row {B : Nat} {w w' : World} {row : Option Nat} (h : w.grownBy w' row) (hr : ∀ g, row = some g → B ≤ g) (hB : B ≤ w.heap.size) : Below B w w' :=
  ⟨h.os, h.tape, h.output, h.size, fun k hk => h.block k (by omega) (fun e => by have := hr k e.symm; omega)⟩

theorem infoString : (Try.prog.info? 9).map (fun i => (i.zero, i.size, i.bytes)) = some (some (.string ⟨#[]⟩), 1, 16) := by kernel_rfl

set_option maxHeartbeats 2000000 in
set_option maxRecDepth 100000 in
theorem header_some (G n cap : Nat) (fs : List (ByteArray × ByteArray)) (w : World) (hf : FRow w G fs) (hG : G < w.heap.size) (hn : fs.length = n) (hs : n ≤ 1000) (hsm : ∀ p ∈ fs, p.1.size ≤ 2147483647) :
    Calls Try.prog 14 #[.slice (some ⟨G, 0, none⟩) n cap] w fun e w' => ∃ m, e = .returned (.map (some m)) ∧ w.heap.size ≤ m ∧ Hdr w' m n fs ∧ Below w.heap.size w w' := by
  obtain ⟨i0, hi0, hz0, hz1, hz2⟩ := info_parts infoString
  have Hn := hidF hn
  have Hsm := hidF hsm
  clear hn hsm
  have hmm := @run_makeMap Try.prog
  go_enter Try.func14, Try.ntmps14
  go_wp2
  go_loopw [9] (fun iv wr => ∃ k : Nat, k ≤ n ∧ iv = .int .i64 k ∧ Hdr wr w.heap.size k (fs.take k) ∧ Below w.heap.size w wr) (fun iv _ => n - (intOf iv).toNat)
  case atStart => exact ⟨0, Nat.zero_le _, rfl, Hdr.made w, (Below.refl _ w).alloc (Nat.le_refl _) _⟩
  case round =>
    obtain ⟨k, hk, rfl, hH, hb⟩ := hrel
    have hG2 : w.heap.size ≤ wr.heap.size := hb.size
    by_cases hkl : k < n
    · have hkl' : k < fs.length := by rw [Hn.out]; exact hkl
      have hget := List.getElem?_eq_getElem hkl'
      obtain ⟨⟨key, v⟩, hp⟩ : ∃ p, fs[k] = p := ⟨_, rfl⟩
      rw [hp] at hget
      have hfr := hf.same (hb.block G hG)
      obtain ⟨hc0, hc1⟩ := hfr k _ hget
      have hks : key.size ≤ 2147483647 := Hsm.out _ (List.mem_of_getElem? hget)
      have htake : fs.take (k + 1) = fs.take k ++ [(key, v)] := by rw [List.take_add_one, hget]; rfl
      have Htake := hidF htake
      clear htake hget hp hkl' hfr
      obtain ⟨D, val, hown, hIs, hat, hrow, hap⟩ := hH
      have hB : w.heap.size < wr.heap.size := hown.lt
      have hlk : ∀ w' : World, w'.heap[w.heap.size]? = wr.heap[w.heap.size]? → (Instr.lookup 35 (.map (some w.heap.size)) (.string key) false).run Try.prog w' = .ok (val key) w' := fun w' hw' => by
        obtain ⟨x, ps, hrun, hx⟩ := (ownsMap_at hown hw').lookup keyedStr Try.underlying35 (show (zeroValue 25).run Try.prog w' = .ok nilV w' by kernel_rfl) (show rawR nilV = some (.held nilV, []) from rfl) (keyOf_str key (by unfold maxLen; omega))
        rw [hat key] at hx
        have : x = val key := by simp [rawR] at hx; exact hx.1
        rw [← this]; exact hrun
      have hup : ∀ (w1 : World) (v' : Value), w1.heap[w.heap.size]? = wr.heap[w.heap.size]? → ∃ w2, (Instr.mapUpdate 35 (.map (some w.heap.size)) (.string key) v').run Try.prog w1 = .ok () w2 ∧ w2.ownsMap Try.prog 9 rawR w.heap.size (k + 1) (D.put (.string key.data.toList) (.held v')) ∧ w1.grownBy w2 (some w.heap.size) := fun w1 v' hw' =>
        (ownsMap_at hown hw').update keyedStr Try.underlying35 (by unfold maxLen; omega) (keyOf_str key (by unfold maxLen; omega)) (show rawR v' = some (.held v', []) from rfl)
      have Hlk := hidF hlk
      have Hup := hidF hup
      have Hrow := hidF hrow
      have Hap := hidF hap
      have Hat := hidF hat
      have hvl := valsOf_length (fs.take k) key
      have hvl2 : (valsOf (fs.take k) key).length ≤ k := Nat.le_trans hvl (by simp; omega)
      clear hlk hup hrow hap hat hvl
      go_wp2_with fail
      have hbox : ∃ wb, wb = wr.alloc (.cells #[.string key, .string v] 30) := ⟨_, rfl⟩
      obtain ⟨wb, hwb⟩ := hbox
      have hsz : wb.heap.size = wr.heap.size + 1 := by rw [hwb]; simp
      have hblk : wb.heap[w.heap.size]? = wr.heap[w.heap.size]? := by rw [hwb]; exact Lib.alloc_old _ _ _ hB
      have hbb : Below w.heap.size w wb := by rw [hwb]; exact hb.alloc hG2 _
      have hx0 : wb.cell? ⟨wr.heap.size, 0, none⟩ = some (.string key) := by rw [hwb]; simp
      have hx1 : wb.cell? ⟨wr.heap.size, 1, none⟩ = some (.string v) := by rw [hwb]; simp
      have hrowb : ∀ x, wb.ownsRow (w.heap.size + 1) 9 1 (val x) (valsOf (fs.take k) x).length (valsOf (fs.take k) x) := fun x => by rw [hwb]; exact (Hrow.out x).alloc _
      have Hrowb := hidF hrowb
      have hbase : w.heap.size + 1 ≤ wb.heap.size := by omega
      rw [← hwb]
      have Hsz := hidF hsz
      have Hblk := hidF hblk
      have Hne := hidF (show (val key).ownBlock ≠ some w.heap.size from by
        rcases lt_or (Hrow.out key) with h | ⟨g, h, hb⟩
        · rw [h]; simp
        · rw [h]; simp; omega)
      have Hnb := hidF (show (val key).ownBlock ≠ some wr.heap.size from fun e => by have := ((Hrow.out key).lt _ e).2; omega)
      have Hgb := hidF (show wr.grownBy wb (val key).ownBlock from by rw [hwb]; exact World.grownBy_alloc _ _ _)
      clear hwb hsz hblk hrowb
      have hltb : wr.heap.size < wb.heap.size := by have := Hsz.out; omega
      have hltB : w.heap.size < wb.heap.size := by omega
      have hltb1 : wr.heap.size < (wb.alloc (.cells #[.string v] 9)).drew.heap.size := by show _ < (wb.alloc _).heap.size; simp; omega
      have hltB1 : w.heap.size < (wb.alloc (.cells #[.string v] 9)).drew.heap.size := by show _ < (wb.alloc _).heap.size; simp; omega
      have hblk1 : (wb.alloc (.cells #[.string v] 9)).drew.heap[w.heap.size]? = wr.heap[w.heap.size]? := (Lib.alloc_old wb _ _ hltB).trans Hblk.out
      have hneBox : some wr.heap.size ≠ some w.heap.size := by intro e; injection e; omega
      have hlkA := Hlk.out wb.drew Hblk.out
      have hlkB := Hlk.out (wb.alloc (.cells #[.string v] 9)).drew hblk1
      have Hblk1 := hidF hblk1
      have HltB1 := hidF hltB1
      have Hltb1 := hidF hltb1
      clear hblk1 hltB1 hltb1
      go_region_held3 (fun w' => w'.cell? ⟨wr.heap.size, 0, none⟩ = some (.string key) ∧ w'.cell? ⟨wr.heap.size, 1, none⟩ = some (.string v))
        (first
          | (go_split_ands
             refine ⟨(hg2.cell_far ⟨wr.heap.size, 0, none⟩ ?_ hneBox).trans ((hgrow.cell_far ⟨wr.heap.size, 0, none⟩ Hltb1.out (Ne.symm Hnb.out)).trans ?_), (hg2.cell_far ⟨wr.heap.size, 1, none⟩ ?_ hneBox).trans ((hgrow.cell_far ⟨wr.heap.size, 1, none⟩ Hltb1.out (Ne.symm Hnb.out)).trans ?_)⟩
             · exact Nat.lt_of_lt_of_le Hltb1.out hgrow.size
             · go_keep
             · exact Nat.lt_of_lt_of_le Hltb1.out hgrow.size
             · go_keep)
          | (go_split_ands
             refine ⟨(hgrow.cell_far ⟨wr.heap.size, 0, none⟩ Hltb1.out (Ne.symm Hnb.out)).trans ?_, (hgrow.cell_far ⟨wr.heap.size, 1, none⟩ Hltb1.out (Ne.symm Hnb.out)).trans ?_⟩
             · go_keep
             · go_keep)
          | go_keep)
        ((refine step_append_lies _ (by rfl) _ _ _ (by rfl) (w.heap.size + 1) 9 i0 _ 1 16 Try.underlying25 hi0 hz0 hz1 hz2 rfl (by omega) (val key) _ (valsOf (fs.take k) key) (by rfl) (((Hrowb.out key).alloc _).drew)
            ⟨wb.heap.size, 0, none⟩ 1 1 [.string v] (by rfl) (by rfl) (World.news_of_block (cs := #[.string v]) (t := 9) (fr := (0, 0)) (heap_alloc_new wb _)) (by simp [Value.oneCell'])
            (by omega) (by unfold maxLen; omega) (by omega) (by simp; omega) (wb.heap.size + 1) (by simp) ?_; intro gg cap2 w1 hown1 hgrow hwhere hlt; obtain ⟨w2, hrun2, hmap2, hg2⟩ := Hup.out w1 (.slice (some ⟨gg, 0, none⟩) ((valsOf (fs.take k) key).length + 1) cap2) ((hgrow.block w.heap.size HltB1.out (Hne.out).symm).trans Hblk1.out)))
      all_goals
        have hg1 : wr.grownBy w1 (val key).ownBlock := World.grownBy.trans (World.grownBy.trans Hgb.out (show wb.grownBy (wb.alloc (.cells #[.string v] 9)).drew (val key).ownBlock from ⟨rfl, rfl, rfl, Nat.le_of_lt (by show _ < (wb.alloc _).heap.size; simp), fun i hi _ => Lib.alloc_old wb _ i hi⟩)) hgrow
        have hHn := Hdr.step (fs := fs.take k) (n := k) hIs Hat.out Hrow.out Hap.out hg1 hown1 (by
          rcases hwhere with h | h
          · exact .inl h.symm
          · exact .inr ⟨gg, rfl, by have := Hsz.out; omega⟩) hmap2 hg2
        rw [← Htake.out] at hHn
        have hbn : Below w.heap.size w w2 := hb.trans ((below_row hg1 (by
          intro g hg; exact Nat.le_of_succ_le ((Hrow.out key).lt g hg).1) hG2).trans (below_grown hg2 (Nat.le_refl _) (by have := hg1.size; omega)))
        have HHn := hidF hHn
        clear hHn hmap2 hg2 hown1 hgrow hwhere hg1 hrun2
        go_wp2_with fail
        go_roundw
        case rel => exact ⟨k + 1, by omega, by go_num, HHn.out, hbn⟩
        case measure => simp [intOf]; omega
    · obtain rfl : k = n := by omega
      rw [List.take_of_length_le (by rw [Hn.out]; exact Nat.le_refl _)] at hH
      go_wp2_with fail
      go_ret
      exact ⟨_, rfl, Nat.le_refl _, hH, hb⟩

end Go.Proofs.Ytmneehbhhofabaa
