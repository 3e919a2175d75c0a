/- The reference's Message: the walk. -/
import Derived.Test.YtddnjdapdcopgaaDoorSpecC
import Derived.Deep.LoopGhost
namespace Go.Proofs.YtddnjdapdcopgaaDoor
open Go.RowKit

/-- What Message comes to. -/
def MsgOut (st : List UInt8) (w : World) (e : Ending) (w' : World) : Prop := Only [] w w' ∧
  ((∃ a c, e = .returned (.tuple #[a, c, .int .i64 2])) ∨ ((∃ a c, e = .returned (.tuple #[a, c, .int .i64 1])) ∧ MsgR [] st .bad) ∨
   ∃ gv rest parts L, e = .returned (.tuple #[gv, .string (mkB rest), .int .i64 0]) ∧ MsgR [] st (.good parts rest) ∧ OwnF 39 w.heap.size gv L w' ∧ SortedK L ∧ ∀ k, filK L k = filK (parts.map finP) k)
/-- Where its loop stands. -/
structure MMid (st : List UInt8) (w : World) (s : ByteArray) (pv : Value) (n : Nat) (P : List (ByteArray × ByteArray)) (wr : World) : Prop where
  own : OwnF 62 w.heap.size pv P wr
  k : Only [] w wr
  pos : 0 < n → P ≠ []
  len : n + s.size ≤ st.length ∧ P.length ≤ n ∧ ∀ p ∈ P, p.2.size + s.size ≤ st.length
  fwd : ∀ o, MsgR P s.data.toList o → MsgR [] st o

theorem lineS_len {s l t : List UInt8} (h : lineS s = some (l, t)) : l.length + 1 + t.length ≤ s.length := by
  obtain ⟨a, hb, rfl⟩ := lineS_some h
  obtain ⟨e, _⟩ := brk_some hb
  have h1 := congrArg List.length e
  rw [List.length_append, List.length_cons] at h1
  have h2 : (chop a).length ≤ a.length := by unfold chop; split <;> simp
  omega
theorem fcells_last (ps : List (ByteArray × ByteArray)) (k v x : ByteArray) : (fcells (ps ++ [(k, v)])).set (ps.length * 2 + 1) (.string x) = fcells (ps ++ [(k, x)]) := by
  rw [fcells_app, fcells_app, List.set_append_right _ _ (by rw [fcells_length]; omega), fcells_length]
  congr 1
  rw [show ps.length * 2 + 1 - ps.length * 2 = 1 by omega]
  rfl
theorem cutC_not {l : List UInt8} (h : ∀ x ∈ l, x ≠ 58) : cutC l = none := by
  cases hc : cutC l with
  | none => rfl
  | some p =>
    obtain ⟨e, _⟩ := cutC_some hc
    exact absurd rfl (h 58 (by rw [e]; simp))
/-- A line that goes on. -/
theorem MMid.cont {st : List UInt8} {w wr wd : World} {s tb x k v : ByteArray} {g np cp n q : Nat} {ps : List (ByteArray × ByteArray)} {l t : List UInt8} (h : MMid st w s (.slice (some ⟨g, 0, none⟩) np cp) n (ps ++ [(k, v)]) wr) (hq : q = ps.length) (hl : lineS s.data.toList = some (l, t)) (htb : tb = mkB t)
    (hb : ∃ x, l.head? = some x ∧ isBl x = true) (ht : trimB l ≠ []) (hx : x.data.toList = v.data.toList ++ 32 :: trimB l) (hd : Only [] wr wd) : MMid st w tb (.slice (some ⟨g, 0, none⟩) np cp) (n + 1) (ps ++ [(k, x)]) (wd.setCell ⟨g, q * 2 + 1, none⟩ (.string x)) := by
  subst hq
  have hll := lineS_len hl
  rw [← size_of_list] at hll
  have htl := trimB_len l
  have htz : tb.size = t.length := by rw [htb, size_mkB]
  have ho := h.own.only hd (by simp)
  have hnp : np = (ps ++ [(k, v)]).length := by
    obtain ⟨a, c, e⟩ := ho.form
    injection e
  have hlen2 : (ps ++ [(k, x)]).length = np := by rw [hnp]; simp
  have hst := World.ownsRow.stored (show wd.ownsRow w.heap.size 62 2 (.slice (some ⟨g, 0, none⟩) np cp) np (fcells (ps ++ [(k, v)])) from by
    have h1 := ho
    unfold OwnF at h1
    rw [← hnp] at h1
    exact h1) (ps.length * 2 + 1) (.string x)
  rw [fcells_last] at hst
  have hg := (ho.lo g rfl).1
  have hxs : x.size = v.size + (1 + (trimB l).length) := by
    have := congrArg List.length hx
    rw [← size_of_list, List.length_append, ← size_of_list, List.length_cons] at this
    omega
  refine ⟨?_, ?_, fun _ => by simp, ⟨?_, ?_, fun p hp => ?_⟩, fun o hm => h.fwd o ?_⟩
  · unfold OwnF
    rw [hlen2]
    exact hst.1
  · exact (h.k.trans hd).fresh (Only.of_row hst.2) (fun z hz => by obtain rfl := List.mem_singleton.1 hz; exact .inl hg)
  · have := h.len.1; omega
  · have := h.len.2.1
    simp only [List.length_append, List.length_cons, List.length_nil] at this ⊢
    omega
  · rcases List.mem_append.1 hp with hp | hp
    · have := h.len.2.2 p (List.mem_append_left _ hp); omega
    · obtain rfl := List.mem_singleton.1 hp
      have := h.len.2.2 (k, v) (by simp)
      show x.size + _ ≤ _
      have h3 : v.size + s.size ≤ st.length := this
      omega
  · refine MsgR.cont _ ps k v.data.toList _ l t o hl (by rw [list_mkB]) hb ht ?_
    rw [← hx, list_mkB]
    rw [htb, mkB_list] at hm
    exact hm

/-- A field's first line. -/
theorem MMid.more {st : List UInt8} {w wr W w' : World} {s tb : ByteArray} {pv v' : Value} {n : Nat} {P : List (ByteArray × ByteArray)} {l t a z : List UInt8} (h : MMid st w s pv n P wr) (hl : lineS s.data.toList = some (l, t)) (htb : tb = mkB t)
    (hc : cutC l = some (a, z)) (hn : a.all nameC = true) (h0 : a ≠ []) (hW : Only [] wr W) (hg : W.grownBy w' pv.ownBlock) (ho : OwnF 62 w.heap.size v' (P ++ [(mkB (canon a), mkB (trimB z))]) w') : MMid st w tb v' (n + 1) (P ++ [(mkB (canon a), mkB (trimB z))]) w' := by
  have hll := lineS_len hl
  rw [← size_of_list] at hll
  have htz : tb.size = t.length := by rw [htb, size_mkB]
  have hzl : (trimB z).length < l.length := by
    have h1 := trimB_len z
    have h2 := cutC_len hc
    omega
  refine ⟨ho, (h.k.trans hW).fresh (Only.of_row hg) (fun x hx => .inl (h.own.lo x (Option.mem_toList.1 hx)).1), fun _ => by simp, ⟨?_, ?_, fun p hp => ?_⟩, fun o hm => h.fwd o ?_⟩
  · have := h.len.1; omega
  · have := h.len.2.1
    rw [List.length_append, List.length_singleton]
    omega
  · rcases List.mem_append.1 hp with hp | hp
    · have := h.len.2.2 p hp; omega
    · obtain rfl := List.mem_singleton.1 hp
      have h1 := h.len.1
      show (mkB (trimB z)).size + _ ≤ _
      rw [size_mkB]
      omega
  · refine MsgR.more P _ l t a z o hl hc hn h0 ?_
    rw [htb, mkB_list] at hm
    exact hm

/-- The fields of the first j parts have been put in. -/
structure InsAt (P : List (ByteArray × ByteArray)) (w1 : World) (B j : Nat) (fv : Value) (F : List (ByteArray × ByteArray)) (wq : World) : Prop where
  own : OwnF 39 B fv F wq
  k : Only [] w1 wq
  srt : SortedK F
  fil : ∀ key, filK F key = filK ((P.take j).map finP) key
  len : F.length = j
theorem InsAt.step {P : List (ByteArray × ByteArray)} {w1 wq W w' : World} {B j i : Nat} {fv v' : Value} {F : List (ByteArray × ByteArray)} {K V x : ByteArray} (h : InsAt P w1 B j fv F wq) (hp : P[j]? = some (K, V)) (hx : x = mkB (trimB V.data.toList)) (hW : Only [] wq W) (hB : B ≤ W.heap.size) (hi : PlaceK F K i)
    (ho : OwnF 39 W.heap.size v' (insK F i K [x]) w') (hg : W.grownBy w' none) : InsAt P w1 B (j + 1) v' (insK F i K [x]) w' := by
  refine ⟨ho.base hB, (h.k.trans hW).trans (Only.of_row hg), insK_sorted h.srt hi, fun key => ?_, ?_⟩
  · rw [List.take_add_one, hp, Option.toList_some, List.map_append, List.map_cons, List.map_nil]
    have e : finP (K, V) = (K, x) := by rw [hx]; rfl
    rw [e]
    by_cases hk : K = key
    · subst hk
      rw [insK_same hi, h.fil]
      unfold filK
      rw [List.filter_append]
      simp
    · rw [insK_other hk, h.fil]
      unfold filK
      rw [List.filter_append]
      simp [hk]
  · unfold insK
    have := hi.1
    rw [List.length_append, List.length_append, List.length_take, List.length_drop, ← h.len]
    simp
    omega

set_option maxHeartbeats 16000000 in
set_option maxRecDepth 100000 in
theorem message_any (s0 : ByteArray) (w : World) (hs : s0.size ≤ 65536) :
    Calls Tryd.prog 6 #[.string s0] w (MsgOut s0.data.toList w) := by
  go_enter Tryd.func6, Tryd.ntmps6
  go_wp2_with fail
  go_loopg [0, 2, 5, 6] s0.size (fun g sv fv pv nv wr => ∃ (s : ByteArray) (n : Nat), g = s.size ∧ sv = .string s ∧ fv = .slice none 0 0 ∧ nv = .int .i64 n ∧ n ≤ 65536 ∧ s.size ≤ 65536 ∧ Hid (∃ P, MMid s0.data.toList w s pv n P wr))
  case atStart => exact ⟨s0, 0, rfl, rfl, rfl, rfl, by omega, hs, [], OwnF.nil _ _ _, Only.refl _ _, fun h => absurd h (by omega), ⟨by rw [← size_of_list]; omega, Nat.le_refl _, fun p hp => by cases hp⟩, fun o h => h⟩
  case round =>
    obtain ⟨s, n, hgs, rfl, rfl, rfl, hn, hss, hm⟩ := hrel
    have Hgs := hidF hgs
    clear hgs
    obtain ⟨P, hP⟩ := hm.out
    obtain ⟨ap, cp, rfl⟩ := hP.own.form
    obtain ⟨np, hnp⟩ : ∃ np, np = P.length := ⟨_, rfl⟩
    have HP := hidF hP
    rw [← hnp] at HP ⊢
    have hnp2 : np ≤ 65536 := by rw [hnp]; have := hP.len.2.1; omega
    have Hnp := hidF hnp
    clear hm hP hnp
    have hln := hidF (line_any s wr (by omega))
    go_wp2_with fail
    refine hln.out.mono ?_
    rintro e w1 ⟨hcase, k1⟩
    have K1 := hidF k1
    clear hln k1
    rcases hcase with ⟨rfl, hl⟩ | ⟨l, t, rfl, hl⟩
    · have HF := hidF (show ∀ a c, MsgOut s0.data.toList w (.returned (.tuple #[a, c, .int .i64 2])) w1 from fun a c => ⟨HP.out.k.trans K1.out, .inl ⟨a, c, rfl⟩⟩)
      clear hl
      go_wp2_with fail
      go_ret3
      exact HF.out _ _
    · have Hl := hidF hl
      have hsz : (mkB t).size < s.size ∧ (mkB l).size ≤ 65536 := by
        obtain ⟨a, hb, rfl⟩ := lineS_some hl
        obtain ⟨e, _⟩ := brk_some hb
        have h1 := congrArg List.length e
        rw [← size_of_list, List.length_append, List.length_cons] at h1
        have h2 : (chop a).length ≤ a.length := by unfold chop; split <;> simp
        rw [size_mkB, size_mkB]
        omega
      obtain ⟨lb, hlb⟩ : ∃ lb, lb = mkB l := ⟨_, rfl⟩
      obtain ⟨tb, htb⟩ : ∃ tb, tb = mkB t := ⟨_, rfl⟩
      rw [← hlb, ← htb] at hsz ⊢
      have Hlb := hidF (And.intro hlb htb)
      obtain ⟨hsz1, hsz2⟩ := hsz
      clear hl hlb htb
      have HOpen := hidF (show ∀ a c w', Only [] w1 w' → MsgOut s0.data.toList w (.returned (.tuple #[a, c, .int .i64 2])) w' from fun a c w' k => ⟨(HP.out.k.trans K1.out).trans k, .inl ⟨a, c, rfl⟩⟩)
      have HP1 := hidF (show MMid s0.data.toList w s (.slice ap np cp) n P w1 from ⟨HP.out.own.only K1.out (by simp), HP.out.k.trans K1.out, HP.out.pos, HP.out.len, HP.out.fwd⟩)
      by_cases h0 : lb.size = 0
      · have hlb0 : lb = ⟨#[]⟩ := by
          have : lb.data.toList = [] := List.eq_nil_of_length_eq_zero (by rw [← size_of_list]; exact h0)
          rw [← list_mkB lb, this]; rfl
        subst hlb0
        by_cases hnp0 : np = 0
        · subst hnp0
          go_wp2_with fail
          go_ret3
          exact HOpen.out _ _ _ (Only.refl _ _)
        · have e0 : ((np : Int) == 0) = false := beq_eq_false_iff_ne.2 (by omega)
          have hsf : MsgR [] s0.data.toList (.good P t) := HP.out.fwd _ (MsgR.fin _ _ _ (by rw [Hl.out]; have := Hlb.out.1; rw [mkB_inj (this.symm.trans (show (⟨#[]⟩ : ByteArray) = mkB [] from rfl))]))
          have HSf := hidF hsf
          rcases HP1.out.own.row with ⟨_, hP0⟩ | ⟨g, cap3, h1, hg1, hg2, _, _⟩
          · exact absurd (by rw [Hnp.out, hP0]; rfl) hnp0
          · injection h1 with h2 h3 h4
            subst h2
            clear hsf hnp0 h0 h3 h4 hg1
            go_wp2_with fail
            go_loopg [2, 126] np (fun gh fv jv wq => ∃ j : Nat, j ≤ np ∧ jv = .int .i64 j ∧ gh = np - j ∧ Hid (∃ F, InsAt P w1 w.heap.size j fv F wq))
            case atStart => exact ⟨0, Nat.zero_le _, rfl, rfl, [], OwnF.nil _ _ _, Only.refl _ _, List.Pairwise.nil, fun key => rfl, rfl⟩
            case round =>
              obtain ⟨j, hj, rfl, hgh, hI⟩ := hrel
              have Hgh := hidF hgh
              obtain ⟨F, hF⟩ := hI.out
              obtain ⟨af, cf, rfl⟩ := hF.own.form
              have HF := hidF hF
              clear hgh hI hF
              by_cases hjn : j = np
              · subst hjn
                have HE := hidF (show MsgOut s0.data.toList w (.returned (.tuple #[.slice af F.length cf, .string tb, .int .i64 0])) wr from ⟨(HP1.out.k).trans HF.out.k, .inr (.inr ⟨_, t, P, F, by rw [Hlb.out.2], HSf.out, HF.out.own, HF.out.srt, fun key => by
                  rw [HF.out.fil, List.take_of_length_le (by rw [← Hnp.out]; exact Nat.le_refl _)]⟩)⟩)
                go_wp2_with fail
                go_ret3
                exact HE.out
              · have hjl : j < np := by omega
                obtain ⟨KV, hKV⟩ : ∃ KV, P[j]? = some KV := ⟨_, List.getElem?_eq_getElem (by rw [← Hnp.out]; exact hjl)⟩
                obtain ⟨K, V⟩ := KV
                have ho := HP1.out.own.only HF.out.k (by simp)
                have qk := ho.cells (j * 2) _ (fcells_get P j (K, V) hKV).1
                have qv := ho.cells (j * 2 + 1) _ (fcells_get P j (K, V) hKV).2
                have HKV := hidF hKV
                obtain ⟨x, hx⟩ : ∃ x, x = mkB (trimB V.data.toList) := ⟨_, rfl⟩
                have hvz : V.size ≤ 65536 := by have h1 := HP1.out.len.2.2 (K, V) (List.mem_of_getElem? hKV); rw [← size_of_list] at h1; have h9 : V.size + s.size ≤ s0.size := h1; omega
                have htrm := hidF (show ∀ W, Calls Tryd.prog 11 #[.string V] W fun e w' => e = .returned (.string x) ∧ W = w' from fun W => by
                  rw [hx]; exact trimmed_any V W (by omega))
                have kA : Only [] wr (wr.alloc (.cells #[.string K, .string V] 62)).drew := (show Only [] wr (wr.alloc (.cells #[.string K, .string V] 62)) from Only.of_below ((Below.refl _ _).alloc (Nat.le_refl _) _)).trans (Only.drewN [] _ 1)
                have hins := hidF (insert_any w.heap.size (.slice af F.length cf) F K x (wr.alloc (.cells #[.string K, .string V] 62)).drew (HF.out.own.only kA (by simp)) HF.out.srt (by rw [HF.out.len]; omega))
                have HKA := hidF kA
                have Hx := hidF hx
                clear ho hKV hjn hx kA
                go_wp2_with fail
                go_region_law ((first | (go_simp; go_at_call 11; refine (htrm.out _).mono ?_; rintro e w4 ⟨rfl, rfl⟩) | (go_simp; go_at_call 13; refine hins.out.mono ?_; rintro e w5 ⟨v', i, rfl, hpl, how, hgr⟩; have Hpl := hidF hpl; have How := hidF how; have Hgr := hidF hgr; clear hpl how hgr)))
                all_goals
                  have HS := hidF (HF.out.step HKV.out Hx.out HKA.out (Nat.le_trans (Nat.le_trans HP1.out.k.size HF.out.k.size) HKA.out.size) Hpl.out How.out Hgr.out)
                  go_wp2_with fail
                  go_roundg (np - (j + 1))
                  case measure => have := Hgh.out; omega
                  case rel => exact ⟨j + 1, by omega, by simp, rfl, _, HS.out⟩
      · have he0 : (lb.toList == ([] : List UInt8)) = false := by
          rw [beq_eq_false_iff_ne, Lib.toList_data]
          intro e
          exact h0 (by rw [size_of_list, e]; rfl)
        go_wp2_with fail
        go_loop [2, 29] (fun fv iv => ∃ i : Nat, fv = .slice none 0 0 ∧ i ≤ lb.size ∧ iv = .int .i64 i) (fun _ iv => lb.size - (intOf iv).toNat)
        case atStart => exact ⟨0, rfl, Nat.zero_le _, rfl⟩
        case round =>
          obtain ⟨i, rfl, hi, rfl⟩ := hrel
          by_cases hil : i < lb.size
          · obtain ⟨c, hc⟩ : ∃ c, c = lb[i]'hil := ⟨_, rfl⟩
            have hc2 : ((lb[i]'hil).toNat : Int) = (c.toNat : Int) := by rw [hc]
            clear hc
            go_wp2_with fail
            all_goals first
              | (go_ret3; exact HOpen.out _ _ _ (Only.refl _ _))
              | (go_round; (case rel => exact ⟨i + 1, rfl, by omega, by simp⟩); (case measure => simp [intOf]; omega))
          · obtain rfl : i = lb.size := by omega
            have hpos : 0 < lb.size := by omega
            obtain ⟨c0, hc0⟩ : ∃ c, c = lb[0]'hpos := ⟨_, rfl⟩
            have hc0n : ((lb[0]'hpos).toNat : Int) = (c0.toNat : Int) := by rw [hc0]
            have hgl : l[0]? = some c0 := by
              have := get_of lb 0 hpos
              rw [← hc0, Hlb.out.1, mkB_list] at this
              exact this
            have Hgl := hidF hgl
            have htr := hidF (trimmed_any lb w1 (by omega))
            have Hpos := hidF hpos
            clear hil hi hc0 hgl
            go_wp2_with fail
            refine htr.out.mono ?_
            rintro e w2 ⟨rfl, rfl⟩
            clear htr
            obtain ⟨tr, htr⟩ : ∃ tr, tr = mkB (trimB lb.data.toList) := ⟨_, rfl⟩
            rw [← htr]
            have htl : trimB l = tr.data.toList := by rw [htr, mkB_list, Hlb.out.1, mkB_list]
            have htz : tr.size ≤ 65536 := by
              rw [htr, size_mkB]
              have := trimB_len lb.data.toList
              rw [← size_of_list] at this
              omega
            have Htr := hidF htl
            have Htr3 := hidF htr.symm
            clear htr htl
            by_cases ht0 : tr.size = 0
            · have htr0 : tr = ⟨#[]⟩ := by
                have : tr.data.toList = [] := List.eq_nil_of_length_eq_zero (by rw [← size_of_list]; exact ht0)
                rw [← list_mkB tr, this]; rfl
              subst htr0
              go_wp2_with fail
              go_ret3
              exact HOpen.out _ _ _ (Only.refl _ _)
            · have het : (tr.toList == ([] : List UInt8)) = false := by
                rw [beq_eq_false_iff_ne, Lib.toList_data]
                intro e
                exact ht0 (by rw [size_of_list, e]; rfl)
              have Htn := hidF (show trimB l ≠ [] from by
                rw [Htr.out]
                intro e
                exact ht0 (by rw [size_of_list, e]; rfl))
              clear ht0
              cases hb : isBl c0 with
              | true =>
                have Hb := hidF hb
                clear hb
                by_cases hn0 : n = 0
                · subst hn0
                  rcases isBl_yes Hb.out with hc | hc
                  · subst hc
                    go_wp2_with fail
                    go_ret3
                    exact HOpen.out _ _ _ (Only.refl _ _)
                  · subst hc
                    go_wp2_with fail
                    go_ret3
                    exact HOpen.out _ _ _ (Only.refl _ _)
                · have en0 : ((n : Int) == 0) = false := beq_eq_false_iff_ne.2 (by omega)
                  have htr2 := hidF (trimmed_any lb w1.drew (by omega))
                  have hPne := HP1.out.pos (by omega)
                  obtain ⟨ps, kv, hps⟩ : ∃ ps kv, P = ps ++ [kv] := ⟨_, _, (List.dropLast_concat_getLast hPne).symm⟩
                  obtain ⟨k, v⟩ := kv
                  subst hps
                  obtain ⟨q, hq⟩ : ∃ q, q = ps.length := ⟨_, rfl⟩
                  have hnq : np = q + 1 := by rw [Hnp.out, hq]; simp
                  subst hnq
                  rcases HP1.out.own.row with ⟨_, h0⟩ | ⟨g, cap3, h1, hg1, hg2, _, _⟩
                  · exact absurd h0 hPne
                  · injection h1 with h2 h3 h4
                    subst h2
                    have qv := HP1.out.own.cells (q * 2 + 1) _ (by rw [hq]; exact (fcells_get (ps ++ [(k, v)]) ps.length (k, v) (by simp)).2)
                    have fv : w1.frozen? ⟨g, q * 2 + 1, none⟩ = false := by
                      rcases HP1.out.own.2 with ⟨h5, _⟩ | ⟨g', cap', cur, h5, _, h6, _⟩
                      · cases h5
                      · injection h5 with h5 _ _
                        injection h5 with h5
                        injection h5 with h5
                        subst h5
                        exact frozen_of_row w1 g _ cur _ h6
                    have hvz : v.size ≤ 65536 := by have := HP1.out.len.2.2 (k, v) (by simp); rw [← size_of_list] at this; have h9 : v.size + s.size ≤ s0.size := this; omega
                    have p1 : ∀ w, (Op.stringOp .add ⟨#[32]⟩ tr).run Tryd.prog w = .ok (.string (⟨#[32]⟩ ++ tr)) w := fun w => run_string_add_sum w _ _ (by show 1 + tr.size ≤ _; omega)
                    have p2 : ∀ w, (Op.stringOp .add v (⟨#[32]⟩ ++ tr)).run Tryd.prog w = .ok (.string (v ++ (⟨#[32]⟩ ++ tr))) w := fun w => run_string_add_sum w _ _ (by rw [ByteArray.size_append]; show v.size + (1 + tr.size) ≤ _; omega)
                    have hx : (v ++ ((⟨#[32]⟩ : ByteArray) ++ tr)).data.toList = v.data.toList ++ 32 :: trimB l := by rw [Htr.out]; simp [ByteArray.data_append]
                    have HM2 := hidF (HP1.out.cont hq Hl.out Hlb.out.2 ⟨c0, by rw [List.head?_eq_getElem?]; exact Hgl.out, Hb.out⟩ Htn.out hx (Only.drewN [] w1 1))
                    have Hq := hidF hq
                    have wq : IntKind.i64.wrap (q : Int) = (q : Int) := IntWalk.i64_in _ (by omega)
                    have lq : (q : Int) < (q : Int) + 1 := by omega
                    clear hx hPne hg1 h3 h4 hq
                    rcases isBl_yes Hb.out with hc | hc
                    all_goals
                      subst hc
                      go_wp2_with fail
                      go_region_law ((go_simp; go_at_call 11; refine htr2.out.mono ?_; rintro e wt ⟨rfl, rfl⟩; rw [Htr3.out]))
                      all_goals
                        go_wp2_with fail
                        have hl1 := HM2.out.len.1
                        rw [← size_of_list] at hl1
                        go_roundg tb.size
                        case measure => have := Hgs.out; omega
                        case rel => exact ⟨tb, n + 1, rfl, rfl, rfl, by simp, by omega, by omega, _, HM2.out⟩
              | false =>
                obtain ⟨e1, e2⟩ := bl_facts hb
                have Hb := hidF hb
                clear hb
                go_upto_block 4 with fail
                go_cut [11] (fun kv wc => ∃ k : Nat, kv = .int .i64 k ∧ w1 = wc ∧ k ≤ lb.size ∧ Hid ((∀ x ∈ l.take k, x ≠ 58) ∧ (k < lb.size → l[k]? = some 58)))
                case first =>
                  go_wp2_with fail
                  go_loop [11] (fun kv => ∃ k : Nat, kv = .int .i64 k ∧ k ≤ lb.size ∧ Hid (∀ x ∈ l.take k, x ≠ 58)) (fun kv => lb.size - (intOf kv).toNat)
                  case atStart => exact ⟨0, rfl, Nat.zero_le _, fun x hx => by simp at hx⟩
                  case round =>
                    obtain ⟨k, rfl, hk, hall⟩ := hrel
                    by_cases hlt : k < lb.size
                    · obtain ⟨c, hc⟩ : ∃ c, c = lb[k]'hlt := ⟨_, rfl⟩
                      have hck := get_of lb k hlt
                      rw [← hc, Hlb.out.1, mkB_list] at hck
                      by_cases h58 : c = 58
                      · have hcn : ((lb[k]'hlt).toNat : Int) = 58 := by rw [← hc, h58]; rfl
                        have HC := hidF (show (∀ x ∈ l.take k, x ≠ 58) ∧ (k < lb.size → l[k]? = some 58) from ⟨hall.out, fun _ => by rw [hck, h58]⟩)
                        clear hc hck h58 hall
                        go_wp2_with fail
                        go_meet
                        exact ⟨k, rfl, rfl, hk, HC⟩
                      · have hcn : ((lb[k]'hlt).toNat : Int) ≠ 58 := by
                          rw [← hc]
                          exact fun e => h58 (UInt8.toNat_inj.1 (by have : (58 : UInt8).toNat = 58 := rfl; omega))
                        have HC := hidF (show ∀ x ∈ l.take (k + 1), x ≠ 58 from fun x hx => by
                          rw [List.take_add_one, hck] at hx
                          rcases List.mem_append.1 hx with hx | hx
                          · exact hall.out x hx
                          · simp at hx; rw [hx]; exact h58)
                        clear hc hck h58 hall
                        go_wp2_with fail
                        go_round
                        case rel => exact ⟨k + 1, by simp, by omega, HC⟩
                        case measure => simp [intOf]; omega
                    · obtain rfl : k = lb.size := by omega
                      have HC := hidF (show (∀ x ∈ l.take lb.size, x ≠ 58) ∧ (lb.size < lb.size → l[lb.size]? = some 58) from ⟨hall.out, fun h => absurd h (by omega)⟩)
                      clear hall
                      go_wp2_with fail
                      go_meet
                      exact ⟨_, rfl, rfl, hk, HC⟩
                case rest =>
                  obtain ⟨k, rfl, rfl, hk, hcol⟩ := hcut
                  have hlz : lb.size = l.length := by rw [Hlb.out.1, size_mkB]
                  by_cases hkz : k = lb.size
                  · subst hkz
                    have hbad := hidF (show (∀ x, t.head? = some x → isBl x = false) → ∀ a c, MsgOut s0.data.toList w (.returned (.tuple #[a, c, .int .i64 1])) w1 from fun hr a c => ⟨HP.out.k.trans K1.out, .inr (.inl ⟨⟨a, c, rfl⟩, HP1.out.fwd _ (MsgR.bad P _ l t Hl.out (fun e => by have := Hpos.out; rw [hlz, e] at this; simp at this) (fun x hx => by
                      rw [List.head?_eq_getElem?, Hgl.out] at hx
                      injection hx with hx
                      rw [← hx]; exact Hb.out) (cutC_not (fun x hx => hcol.out.1 x (by rw [hlz, List.take_length]; exact hx))) hr)⟩)⟩)
                    have htl2 : tb.data.toList = t := by rw [Hlb.out.2, mkB_list]
                    by_cases htz0 : tb.size = 0
                    · have htb0 : tb = ⟨#[]⟩ := by
                        have : tb.data.toList = [] := List.eq_nil_of_length_eq_zero (by rw [← size_of_list]; exact htz0)
                        rw [← list_mkB tb, this]; rfl
                      have HF := hidF (hbad.out (by
                        rw [← htl2, htb0]
                        intro x hx; cases hx))
                      clear hbad htl2 hcol htz0 hlz
                      subst htb0
                      go_wp2_with fail
                      go_ret3
                      exact HF.out _ _
                    · have htp : 0 < tb.size := by omega
                      have het : (tb.toList == ([] : List UInt8)) = false := by
                        rw [beq_eq_false_iff_ne, Lib.toList_data]
                        intro e
                        exact htz0 (by rw [size_of_list, e]; rfl)
                      obtain ⟨d, hd⟩ : ∃ d, d = tb[0]'htp := ⟨_, rfl⟩
                      have hdn : ((tb[0]'htp).toNat : Int) = (d.toNat : Int) := by rw [hd]
                      have hgt := get_of tb 0 htp
                      rw [← hd, htl2] at hgt
                      cases hdb : isBl d with
                      | true =>
                        have hcc := isBl_yes hdb
                        clear hbad htl2 hcol htz0 hlz hd hgt hdb
                        rcases hcc with rfl | rfl
                        · go_wp2_with fail
                          go_ret3
                          exact HOpen.out _ _ _ (Only.refl _ _)
                        · go_wp2_with fail
                          go_ret3
                          exact HOpen.out _ _ _ (Only.refl _ _)
                      | false =>
                        obtain ⟨f1, f2⟩ := bl_facts hdb
                        have HF := hidF (hbad.out (fun x hx => by
                          rw [List.head?_eq_getElem?, hgt] at hx
                          injection hx with hx
                          rw [← hx]; exact hdb))
                        clear hbad htl2 hcol htz0 hlz hd hgt hdb
                        go_wp2_with fail
                        go_ret3
                        exact HF.out _ _
                  · have hkl : k < lb.size := by omega
                    have hekz : ((k : Int) == (lb.size : Int)) = false := beq_eq_false_iff_ne.2 (by omega)
                    have hl58 := hcol.out.2 hkl
                    have hcut : cutC l = some (l.take k, l.drop (k + 1)) := by
                      conv => lhs; rw [takeS hl58]
                      exact cutC_at _ _ hcol.out.1
                    have Hcut := hidF hcut
                    have hkz2 : (lb.extract 0 k).size = k := by rw [ByteArray.size_extract]; omega
                    have hex : (lb.extract 0 k).data.toList = l.take k := by rw [to_mkB, mkB_list, Hlb.out.1, mkB_list]
                    have Hex := hidF hex
                    have hnm := hidF (isName_any (lb.extract 0 k) w1 (by omega))
                    have Hkz2 := hidF hkz2
                    clear hcol hkz hl58 hcut hex hlz
                    go_wp2_with fail
                    refine hnm.out.mono ?_
                    rintro e w2 ⟨rfl, rfl⟩
                    rw [Hex.out]
                    cases hnb : isName (l.take k) with
                    | false =>
                      clear hnb hnm
                      go_wp2_with fail
                      go_ret3
                      exact HOpen.out _ _ _ (Only.refl _ _)
                    | true =>
                      have Hnb := hidF hnb
                      clear hnb hnm
                      obtain ⟨K, hK⟩ : ∃ K, K = mkB (canon (l.take k)) := ⟨_, rfl⟩
                      obtain ⟨V, hV⟩ : ∃ V, V = mkB (trimB (l.drop (k + 1))) := ⟨_, rfl⟩
                      have hcan := hidF (show Calls Tryd.prog 14 #[.string (lb.extract 0 k)] w1.drew fun e w' => e = .returned (.string K) ∧ Below w1.drew.heap.size w1.drew w' from by
                        rw [hK, ← Hex.out]
                        exact specCanonical_any _ _ (by omega))
                      have htrm := hidF (show ∀ W, Calls Tryd.prog 11 #[.string (lb.extract (k + 1) lb.size)] W fun e w' => e = .returned (.string V) ∧ W = w' from fun W => by
                        have h1 := trimmed_any (lb.extract (k + 1) lb.size) W (by rw [ByteArray.size_extract]; omega)
                        rw [from_mkB, mkB_list, Hlb.out.1, mkB_list] at h1
                        rw [hV, from_mkB, Hlb.out.1, mkB_list]
                        exact h1)
                      have HKV := hidF (And.intro hK hV)
                      have Hne := hidF (show l.take k ≠ [] from fun e => by
                        have h1 := Hnb.out
                        rw [e] at h1
                        cases h1)
                      have Hall := hidF (show (l.take k).all nameC = true from by
                        have h1 := Hnb.out
                        unfold isName at h1
                        simp only [Bool.and_eq_true] at h1
                        exact h1.1)
                      have Hnl := hidF (show P.length + 1 ≤ 4000000000 from by rw [← Hnp.out]; omega)
                      have wk : IntKind.i64.wrap ((k : Int) + 1) = ((k + 1 : Nat) : Int) := by rw [IntWalk.i64_in _ (by omega)]; omega
                      have lk0 : (0 : Int) ≤ (k : Int) + 1 := by omega
                      have lk : (k : Int) + 1 ≤ (lb.size : Int) := by omega
                      clear hK hV
                      go_wp2_with fail
                      go_region_law ((first | (go_simp; go_at_call 14; refine hcan.out.mono ?_; rintro e w3 ⟨rfl, hb3⟩; have K3 := hidF (show Only [] w1 (w3.alloc (.cells #[.string K, .string V] 62)) from (Only.drewN [] w1 1).trans ((Only.of_below hb3).trans (Only.of_below ((Below.refl _ _).alloc (Nat.le_refl _) _)))); have hO := hidF (HP1.out.own.only K3.out (by simp)); have hc := hidF (show ∀ j u, (fcells [(K, V)])[j]? = some u → (w3.alloc (.cells #[.string K, .string V] 62)).cell? ((⟨w3.heap.size, 0, none⟩ : Addr).add j) = some u from World.news_of_block (heap_alloc_new w3 _)); have HSz := hidF (show w.heap.size ≤ (w3.alloc (.cells #[.string K, .string V] 62)).heap.size from Nat.le_trans HP1.out.k.size K3.out.size); clear hb3) | (go_simp; go_at_call 11; refine (htrm.out _).mono ?_; rintro e w4 ⟨rfl, rfl⟩) | (refine step_append_f ftP rfl (.tmp 108) (.tmp 119) rfl w.heap.size (.slice ap np cp) P [(K, V)] ⟨w3.heap.size, 0, none⟩ 1 1 _ rfl hO.out rfl rfl hc.out Hnl.out HSz.out ?_; intro v' w' ho' hg' hwh)))
                      all_goals
                        have HM2 := hidF (HP1.out.more Hl.out Hlb.out.2 Hcut.out Hall.out Hne.out K3.out hg'.out (by rw [← HKV.out.1, ← HKV.out.2]; exact ho'.out))
                        clear ho' hg' hwh
                        go_wp2_with fail
                        have hl1 := HM2.out.len.1
                        rw [← size_of_list] at hl1
                        go_roundg tb.size
                        case measure => have := Hgs.out; omega
                        case rel => exact ⟨tb, n + 1, rfl, rfl, rfl, by simp, by omega, by omega, _, HM2.out⟩
end Go.Proofs.YtddnjdapdcopgaaDoor
