/- The reference's Insert: the walk. -/
import Derived.Test.YtddnjdapdcopgaaDoorSpecB
import Derived.Test.YtddnjdapdcopgaaDoorFieldW
import Derived.ArgAppend
import Derived.Deep.RegionLaw
import Derived.Deep.DeepCutAuto
import Derived.Deep.CutBlock
namespace Go.Proofs.YtddnjdapdcopgaaDoor
open Go.RowKit

/-- append that makes a new row. -/
theorem wp_append_fnew {ts t : TypeId} (F : FT ts t) {o : Oper} {a : Act} {K : Act → World → Prop} {Q : Exit → Act → World → Prop} (s x : Operand)
    (ho : o.op = .call { callee := .builtin .append, args := #[s, x], argTypes := #[ts, ts] })
    (ao : Option Addr) (n cap : Nat) (L M : List (ByteArray × ByteArray)) (ad : Addr) (m c : Nat) (w0 : World) (hs : a.eval s = .slice ao n cap) (hnone : ao = none → n = 0 ∧ cap = 0) (hL : L.length = n)
    (holds : ∀ b, ao = some b → ∀ j u, (fcells L)[j]? = some u → w0.cell? (b.add j) = some u) (hx : a.eval x = .slice (some ad) m c) (hM : M.length = m)
    (hc : ∀ j u, (fcells M)[j]? = some u → w0.cell? (ad.add j) = some u) (hfull : cap < n + m) (hlen : n + m ≤ 4000000000)
    (h : ∀ v' w', Hid (OwnF t w0.heap.size v' (L ++ M) w') → Hid (w0.grownBy w' none) → K (a.put o.dst v') w') : o.wp Tryd.prog a w0 K Q := by
  obtain ⟨i0, hi, hz0, hz1, hz2⟩ := info_parts F.info
  subst hM; subst hL
  have key : ∃ v' w', (Builtin.append_ #[ts, ts] o.type #[.slice ao L.length cap, .slice (some ad) M.length c]).run Tryd.prog w0 = .ok v' w' ∧ w'.ownsRow w0.heap.size t 2 v' (L.length + M.length) (fcells L ++ fcells M) ∧ w0.grownBy w' none := by
    cases ao with
    | some b => exact run_append_arg_grows (P := Tryd.prog) w0 ts o.type t i0 _ 2 32 F.und hi hz0 hz1 hz2 rfl (by decide) b L.length cap (fcells L) (fcells_length L) (holds b rfl) ad M.length c (fcells M) (fcells_length M) hc hfull (by unfold maxLen; omega) (by omega)
    | none =>
      obtain ⟨h1, rfl⟩ := hnone rfl
      obtain rfl : L = [] := List.eq_nil_of_length_eq_zero h1
      obtain ⟨v', w', hrun, r1, r2, _⟩ := run_append_own (P := Tryd.prog) w0 w0.heap.size ts o.type t i0 _ 2 32 F.und hi hz0 hz1 hz2 rfl (by decide) (.slice none 0 0) 0 [] (World.ownsRow_nil w0 _ t 2) ad M.length c (fcells M) (fcells_length M) hc (fcells_one M) (by unfold maxLen; omega) (by omega) (Nat.le_refl _)
      exact ⟨v', w', hrun, r1, r2⟩
  obtain ⟨v', w', hr, h2, h3⟩ := key
  unfold Oper.wp execOp
  simp only [ho, resolve, invoke, builtin, Sem.run_bind, Sem.run_pure, Result.andThen_ok, List.map_toArray, List.map_cons, List.map_nil, hs, hx, hr]
  refine h v' w' ?_ h3
  show OwnF t _ v' (L ++ M) w'
  unfold OwnF
  rw [fcells_app, List.length_append]
  exact h2
theorem step_append_fnew {ts t : TypeId} (F : FT ts t) {ops : Array Oper} {o : Oper} {a : Act} {K : Act → World → Prop} {Q : Exit → Act → World → Prop} {E : Prop} (hgd : o.guard = none) (s x : Operand)
    (ho : o.op = .call { callee := .builtin .append, args := #[s, x], argTypes := #[ts, ts] })
    (ao : Option Addr) (n cap : Nat) (L M : List (ByteArray × ByteArray)) (ad : Addr) (m c : Nat) (w0 : World) (hs : a.eval s = .slice ao n cap) (hnone : ao = none → n = 0 ∧ cap = 0) (hL : L.length = n)
    (holds : ∀ b, ao = some b → ∀ j u, (fcells L)[j]? = some u → w0.cell? (b.add j) = some u) (hx : a.eval x = .slice (some ad) m c) (hM : M.length = m)
    (hc : ∀ j u, (fcells M)[j]? = some u → w0.cell? (ad.add j) = some u) (hfull : cap < n + m) (hlen : n + m ≤ 4000000000)
    (h : ∀ v' w', Hid (OwnF t w0.heap.size v' (L ++ M) w') → Hid (w0.grownBy w' none) → K (a.put o.dst v') w') : if Region.wanted o (yielded ops a.tmps) = true then Oper.wp Tryd.prog o a w0 K Q else E := by
  have hw : Region.wanted o (yielded ops a.tmps) = true := by simp [Region.wanted, hgd]
  rw [if_pos hw]
  exact wp_append_fnew F s x ho ao n cap L M ad m c w0 hs hnone hL holds hx hM hc hfull hlen h
/-- append onto a row of the call's own. -/
theorem wp_append_f {ts t : TypeId} (F : FT ts t) {o : Oper} {a : Act} {K : Act → World → Prop} {Q : Exit → Act → World → Prop} (s x : Operand)
    (ho : o.op = .call { callee := .builtin .append, args := #[s, x], argTypes := #[ts, ts] })
    (B : Nat) (v : Value) (L M : List (ByteArray × ByteArray)) (ad : Addr) (n cap : Nat) (w0 : World) (hs : a.eval s = v) (hown : OwnF t B v L w0) (hx : a.eval x = .slice (some ad) n cap) (hM : M.length = n)
    (hc : ∀ j u, (fcells M)[j]? = some u → w0.cell? (ad.add j) = some u) (hlen : L.length + n ≤ 4000000000) (hB : B ≤ w0.heap.size)
    (h : ∀ v' w', Hid (OwnF t B v' (L ++ M) w') → Hid (w0.grownBy w' v.ownBlock) → Hid (v'.ownBlock = v.ownBlock ∨ v'.ownBlock = some w0.heap.size) → K (a.put o.dst v') w') : o.wp Tryd.prog a w0 K Q := by
  obtain ⟨i0, hi, hz0, hz1, hz2⟩ := info_parts F.info
  subst hM
  obtain ⟨v', w', hr, h2, h3, _, h5⟩ := run_append_own_at (P := Tryd.prog) w0 B ts o.type t i0 _ 2 32 F.und hi hz0 hz1 hz2 rfl (by decide) v L.length (fcells L) hown ad M.length cap (fcells M) (fcells_length M) hc (fcells_one M) (by unfold maxLen; omega) (by omega) hB
  unfold Oper.wp execOp
  simp only [ho, resolve, invoke, builtin, Sem.run_bind, Sem.run_pure, Result.andThen_ok, List.map_toArray, List.map_cons, List.map_nil, hs, hx, hr]
  refine h v' w' ?_ h3 h5
  show OwnF t B v' (L ++ M) w'
  unfold OwnF
  rw [fcells_app, List.length_append]
  exact h2
theorem step_append_f {ts t : TypeId} (F : FT ts t) {ops : Array Oper} {o : Oper} {a : Act} {K : Act → World → Prop} {Q : Exit → Act → World → Prop} {E : Prop} (hgd : o.guard = none) (s x : Operand)
    (ho : o.op = .call { callee := .builtin .append, args := #[s, x], argTypes := #[ts, ts] })
    (B : Nat) (v : Value) (L M : List (ByteArray × ByteArray)) (ad : Addr) (n cap : Nat) (w0 : World) (hs : a.eval s = v) (hown : OwnF t B v L w0) (hx : a.eval x = .slice (some ad) n cap) (hM : M.length = n)
    (hc : ∀ j u, (fcells M)[j]? = some u → w0.cell? (ad.add j) = some u) (hlen : L.length + n ≤ 4000000000) (hB : B ≤ w0.heap.size)
    (h : ∀ v' w', Hid (OwnF t B v' (L ++ M) w') → Hid (w0.grownBy w' v.ownBlock) → Hid (v'.ownBlock = v.ownBlock ∨ v'.ownBlock = some w0.heap.size) → K (a.put o.dst v') w') : if Region.wanted o (yielded ops a.tmps) = true then Oper.wp Tryd.prog o a w0 K Q else E := by
  have hw : Region.wanted o (yielded ops a.tmps) = true := by simp [Region.wanted, hgd]
  rw [if_pos hw]
  exact wp_append_f F s x ho B v L M ad n cap w0 hs hown hx hM hc hlen hB h

theorem Only.grown {w w' : World} (h : Only [] w w') : w.grownBy w' none := ⟨h.os, h.tape, h.output, h.size, fun k hk _ => h.kept k hk (by simp)⟩
theorem OwnF.one {t : TypeId} (w : World) (k x : ByteArray) : OwnF t w.heap.size (.slice (some ⟨w.heap.size, 0, none⟩) 1 1) [(k, x)] (w.alloc (.cells #[.string k, .string x] t)) :=
  World.ownsRow_lit w #[.string k, .string x] 1 (Nat.le_refl _) (by unfold maxLen; omega) rfl
/-- What stands ahead of the second append. -/
theorem ins_ready {B n i g cap2 : Nat} {L : List (ByteArray × ByteArray)} {wc w6 : World} {k x : ByteArray} {v6 : Value} (h : OwnF 39 B (.slice (some ⟨g, 0, none⟩) n cap2) L wc) (hn : n = L.length) (hi : i ≤ n) (ho : OwnF 39 wc.heap.size v6 ([(k, x)] ++ L.drop i) w6)
    (k6 : Only [] wc w6) : ∃ g6 c6, v6 = .slice (some ⟨g6, 0, none⟩) (1 + (n - i)) c6 ∧ (∀ b, some (⟨g, 0, none⟩ : Addr) = some b → ∀ j u, (fcells (L.take i))[j]? = some u → w6.cell? (b.add j) = some u) ∧
      (∀ j u, (fcells ((k, x) :: L.drop i))[j]? = some u → w6.cell? ((⟨g6, 0, none⟩ : Addr).add j) = some u) := by
  rcases ho.row with ⟨_, h0⟩ | ⟨g6, c6, rfl, _⟩
  · cases h0
  · refine ⟨g6, c6, ?_, ?_, ?_⟩
    · congr 1
      rw [List.length_append, List.length_drop, ← hn]; rfl
    · intro b hb j u hj
      injection hb with hb
      subst hb
      rw [add_at, Nat.zero_add]
      refine k6.cell (by simp) (h.cells j u ?_)
      rw [fcells_take] at hj
      rw [List.getElem?_take] at hj
      split at hj
      · exact hj
      · cases hj
    · intro j u hj
      rw [add_at, Nat.zero_add]
      exact ho.cells j u hj

set_option maxHeartbeats 4000000 in
set_option maxRecDepth 100000 in
theorem insert_any (B : Nat) (v : Value) (L : List (ByteArray × ByteArray)) (k x : ByteArray) (w : World) (h : OwnF 39 B v L w) (hS : SortedK L) (hL : L.length ≤ 1000000000) :
    Calls Tryd.prog 13 #[v, .agg #[.string k, .string x]] w fun e w' => ∃ v' i, e = .returned v' ∧ PlaceK L k i ∧ OwnF 39 w.heap.size v' (insK L i k [x]) w' ∧ w.grownBy w' none := by
  obtain ⟨a2, cap2, rfl⟩ := h.form
  obtain ⟨n, hn⟩ : ∃ n, n = L.length := ⟨_, rfl⟩
  rw [← hn] at h hL ⊢
  have Hn := hidF hn
  have kA := World.grownBy_alloc w (.cells #[.string k, .string x] 39) none
  have hA : Ob (w.alloc (.cells #[.string k, .string x] 39)) w.heap.size 39 [.string k, .string x] := heap_alloc_new w _
  have HOw := hidF (h.kept kA (by
    cases a2 with
    | none => exact .inl rfl
    | some ad => right; intro e; cases e))
  have HA := hidF hA
  have HK := hidF kA
  have qf := hA.cell 0 _ rfl
  have HS := hidF hS
  clear h hn kA hA hS
  go_enter Tryd.func13, Tryd.ntmps13
  go_upto_block 0 with fail
  obtain ⟨w5, hw5⟩ : ∃ w5, w5 = w.alloc (.cells #[.string k, .string x] 39) := ⟨_, rfl⟩
  rw [← hw5] at HOw HA HK qf ⊢
  have Hw5 := hidF (show w5.heap.size = w.heap.size + 1 from by rw [hw5]; simp)
  clear hw5
  go_cut [5] (fun iv wc => ∃ i : Nat, iv = .int .i64 i ∧ Hid (Only [] w5 wc) ∧ Hid (PlaceK L k i))
  case first =>
    go_wp2_with fail
    go_loopw [5] (fun iv wr => ∃ i : Nat, i ≤ n ∧ iv = .int .i64 i ∧ Hid (Only [] w5 wr) ∧ Hid (∀ p ∈ L.drop i, gtK p.1 k = true)) (fun iv _ => (intOf iv).toNat)
    case atStart =>
      exact ⟨n, Nat.le_refl _, rfl, Only.refl _ _, by rw [Hn.out, List.drop_length]; intro p hp; cases hp⟩
    case round =>
      obtain ⟨i, hin, rfl, hon, hgt⟩ := hrel
      have qf' : wr.cell? ⟨w.heap.size, 0, none⟩ = some (.string k) := hon.out.cell (by simp) qf
      have HOr := hidF (HOw.out.only hon.out (by simp))
      by_cases hi0 : i = 0
      · subst hi0
        have HP := hidF (show PlaceK L k 0 from ⟨Nat.zero_le _, hgt.out, fun p hp => by simp at hp⟩)
        clear hgt
        go_wp2_with fail
        go_quiet (fail)
        go_wp2_with fail
        go_meet
        exact ⟨0, rfl, hon.out.trans (Only.drewN _ _ _), HP⟩
      · obtain ⟨i, rfl⟩ : ∃ j, i = j + 1 := ⟨i - 1, by omega⟩
        have hiL : i < L.length := by rw [← Hn.out]; omega
        obtain ⟨pq, hpq⟩ : ∃ pq, pq = L[i] := ⟨_, rfl⟩
        have hpe : L[i]? = some pq := by rw [hpq, List.getElem?_eq_getElem]
        rcases HOr.out.row with ⟨_, h0⟩ | ⟨g, cap3, h0, hg1, hg2, hg3, hg4⟩
        · rw [h0] at hiL; simp at hiL
        · injection h0 with h1 h2 h3
          subst h1; subst h3
          have qk : wr.cell? ⟨g, i * 2, none⟩ = some (.string pq.1) := HOr.out.cells (i * 2) _ (fcells_get L i pq hpe).1
          have Hpe := hidF hpe
          have HiL := hidF hiL
          have Hin := hidF hin
          have Hgt := hidF hgt
          clear hpq hpe h2 hg1 hg2 hg3 hg4 hiL hi0 hgt
          have Hsp := hidF (fun (b : Bool) (h : (!Op.bytesLess pq.1.toList k.toList && !pq.1.toList == k.toList) = b) => show gtK pq.1 k = b from by unfold gtK; rw [Bool.not_or]; exact h)
          go_wp2_with fail
          go_quiet (fail)
          go_wp2_with fail
          · have hx : (!Op.bytesLess pq.1.toList k.toList) = true ∧ (!pq.1.toList == k.toList) = true := by assumption
            have hb := Hsp.out true (by rw [hx.1, hx.2]; rfl)
            have HP := hidF (show ∀ p ∈ L.drop i, gtK p.1 k = true from fun p hp => by
              rw [List.drop_eq_getElem_cons HiL.out] at hp
              rcases List.mem_cons.1 hp with rfl | hp
              · have h2 := Hpe.out
                rw [List.getElem?_eq_getElem HiL.out] at h2
                rw [Option.some.inj h2]
                exact hb
              · exact Hgt.out p hp)
            clear hb hx
            go_roundw
            case rel => exact ⟨i, by omega, by simp, hon.out.trans (Only.drewN _ _ _), HP⟩
            case measure => simp [intOf]
          · have hx : (!Op.bytesLess pq.1.toList k.toList) = false ∨ (!pq.1.toList == k.toList) = false := by assumption
            have hb := Hsp.out false (by
              rcases hx with hx | hx
              · rw [hx]; rfl
              · rw [hx, Bool.and_false])
            have HP := hidF (show PlaceK L k (i + 1) from ⟨HiL.out, Hgt.out, fun p hp => by
              obtain ⟨j, hj, rfl⟩ := List.mem_take_iff_getElem.1 hp
              have h2 := Hpe.out
              rw [List.getElem?_eq_getElem HiL.out] at h2
              by_cases hji : j = i
              · subst hji
                rw [Option.some.inj h2]
                exact hb
              · have h3 := List.pairwise_iff_getElem.1 HS.out j i (by omega) HiL.out (by omega)
                rw [Option.some.inj h2] at h3
                exact gtK_trans h3 hb⟩)
            clear hb hx
            go_meet
            exact ⟨i + 1, by simp, hon.out.trans (Only.drewN _ _ _), HP⟩
  case rest =>
    obtain ⟨i, rfl, hon, hP⟩ := hcut
    have hin : i ≤ n := by rw [Hn.out]; exact hP.out.1
    have qf0 := (HA.out.only hon.out (by simp)).cell 0 _ rfl
    have qf1 := (HA.out.only hon.out (by simp)).cell 1 _ rfl
    have HOr := hidF (HOw.out.only hon.out (by simp))
    have kw := hidF (show Only [] w wc from (show Only [] w w5 from Only.of_row HK.out).trans hon.out)
    have kal : Only [] wc (wc.alloc (.cells #[.string k, .string x] 39)).drew := (show Only [] wc (wc.alloc (.cells #[.string k, .string x] 39)) from Only.of_below ((Below.refl _ _).alloc (Nat.le_refl _) _)).trans (Only.drewN [] _ 1)
    have Kal := hidF kal
    have HOne := hidF (show OwnF 39 wc.heap.size (.slice (some ⟨wc.heap.size, 0, none⟩) 1 1) [(k, x)] (wc.alloc (.cells #[.string k, .string x] 39)).drew from OwnF.one wc k x)
    have Hsz := hidF (show wc.heap.size ≤ (wc.alloc (.cells #[.string k, .string x] 39)).drew.heap.size from kal.size)
    have Hdl := hidF (show (L.drop i).length = n - i from by rw [List.length_drop, ← Hn.out])
    have Htk := hidF (show (L.take i).length = i from by rw [List.length_take, ← Hn.out]; omega)
    have Hm := hidF (show ((k, x) :: L.drop i).length = 1 + (n - i) from by rw [List.length_cons, Hdl.out]; omega)
    have HP := hidF hP
    have Hl1 := hidF (show [(k, x)].length + (n - i) ≤ 4000000000 from by simp only [List.length_cons, List.length_nil]; omega)
    have Hl2 := hidF (show i + (1 + (n - i)) ≤ 4000000000 from by omega)
    have Hfl := hidF (show i < i + (1 + (n - i)) from by omega)
    have HEnd := hidF (show ∀ w6 v7 w7, Only [] wc w6 → OwnF 39 w6.heap.size v7 (L.take i ++ (k, x) :: L.drop i) w7 → w6.grownBy w7 none → ∃ v' i, Ending.returned v7 = .returned v' ∧ PlaceK L k i ∧ OwnF 39 w.heap.size v' (insK L i k [x]) w7 ∧ w.grownBy w7 none from fun w6 v7 w7 k6 ho hg =>
      ⟨v7, i, rfl, HP.out, ho.base (Nat.le_trans kw.out.size k6.size), ((kw.out.trans k6).trans (Only.of_row hg)).grown⟩)
    clear kal hP hon
    rcases HOr.out.row with ⟨h0, hL0⟩ | ⟨g, cap3, h0, hg1, hg2, hg3, hg4⟩
    · injection h0 with h1 h2 h3
      subst h1; subst h2; subst h3
      obtain rfl : i = 0 := by omega
      have HL0 := hidF hL0
      have Hcc := hidF (show ∀ j u, (fcells ((k, x) :: L.drop 0))[j]? = some u → (wc.alloc (.cells #[.string k, .string x] 39)).drew.cell? ((⟨wc.heap.size, 0, none⟩ : Addr).add j) = some u from by
        rw [hL0]
        intro j u hj
        rw [add_at, Nat.zero_add]
        exact HOne.out.cells j u hj)
      have Hem := hidF (show ∀ b, (none : Option Addr) = some b → ∀ j u, (fcells (L.take 0))[j]? = some u → (wc.alloc (.cells #[.string k, .string x] 39)).drew.cell? (b.add j) = some u from fun b hb => by cases hb)
      clear hL0
      go_wp2_with fail
      go_region_law ((refine step_append_fnew ftS rfl (.tmp 26) (.tmp 32) rfl none 0 0 (L.take 0) ((k, x) :: L.drop 0) ⟨wc.heap.size, 0, none⟩ 1 1 _ rfl (fun _ => ⟨rfl, rfl⟩) Htk.out Hem.out rfl Hm.out Hcc.out (by omega) (by omega) ?_; intro v7 w7 ho7 hg7))
      all_goals
        have HF := hidF (HEnd.out _ v7 w7 Kal.out ho7.out hg7.out)
        go_wp2_with fail
        go_ret
        exact HF.out
    · injection h0 with h1 h2 h3
      subst h1; subst h3
      rw [← Hn.out] at hg3
      have hic : i ≤ cap2 := by omega
      clear hg1 hg2 hg4 h2
      by_cases hci : cap2 = i
      · subst hci
        have hrd := ins_ready HOr.out Hn.out hin (k := k) (x := x) (v6 := .slice (some ⟨wc.heap.size, 0, none⟩) 1 1) (w6 := (wc.alloc (.cells #[.string k, .string x] 39)).drew) (by
          rw [List.drop_of_length_le (by rw [← Hn.out]; exact hg3), List.append_nil]
          exact HOne.out) Kal.out
        obtain ⟨g6, c6, hv6, h7, h8⟩ := hrd
        injection hv6 with hv6 hv7 hv8
        injection hv6 with hv6
        injection hv6 with hv6
        subst hv6; subst hv8
        have Hcc := hidF h8
        have Hem := hidF h7
        have Hm1 := hidF (show ((k, x) :: L.drop cap2).length = 1 from by rw [Hm.out]; exact hv7.symm)
        clear h7 h8 hv7
        go_wp2_with fail
        go_region_law ((refine step_append_fnew ftS rfl (.tmp 26) (.tmp 32) rfl (some ⟨g, 0, none⟩) cap2 cap2 (L.take cap2) ((k, x) :: L.drop cap2) ⟨wc.heap.size, 0, none⟩ 1 1 _ rfl (fun h => by cases h) Htk.out Hem.out rfl Hm1.out Hcc.out (by omega) (by omega) ?_; intro v7 w7 ho7 hg7))
        all_goals
          have HF := hidF (HEnd.out _ v7 w7 Kal.out ho7.out hg7.out)
          go_wp2_with fail
          go_ret
          exact HF.out
      · have Hcf := hidF (show ∀ j u, (fcells (L.drop i))[j]? = some u → (wc.alloc (.cells #[.string k, .string x] 39)).drew.cell? ((⟨g, i * 2, none⟩ : Addr).add j) = some u from (HOr.out.only Kal.out (by simp)).cellsFrom i)
        have Hin := hidF hin
        go_wp2_with fail
        go_region_law ((first | (refine step_append_f ftS rfl (.tmp 28) (.tmp 31) rfl wc.heap.size (.slice (some ⟨wc.heap.size, 0, none⟩) 1 1) [(k, x)] (L.drop i) ⟨g, i * 2, none⟩ (n - i) _ _ rfl HOne.out rfl Hdl.out Hcf.out Hl1.out Hsz.out ?_; intro v6 w6 ho6 hg6 hwh6; have K6 := hidF (Kal.out.fresh (Only.of_row hg6.out) (fun z hz => by obtain rfl := List.mem_singleton.1 hz; exact .inl (Nat.le_refl _))); obtain ⟨g6, c6, rfl, h7, h8⟩ := ins_ready HOr.out Hn.out Hin.out ho6.out K6.out; have Hem := hidF h7; have Hcc := hidF h8; clear h7 h8 ho6 hg6 hwh6) | (refine step_append_fnew ftS rfl (.tmp 26) (.tmp 32) rfl (some ⟨g, 0, none⟩) i i (L.take i) ((k, x) :: L.drop i) ⟨g6, 0, none⟩ (1 + (n - i)) c6 _ rfl (fun h => by cases h) Htk.out Hem.out rfl Hm.out Hcc.out Hfl.out Hl2.out ?_; intro v7 w7 ho7 hg7)))
        all_goals
          have HF := hidF (HEnd.out _ v7 w7 K6.out ho7.out hg7.out)
          go_wp2_with fail
          go_ret
          exact HF.out
end Go.Proofs.YtddnjdapdcopgaaDoor
