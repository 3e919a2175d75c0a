/- laws.FnWrittenIsRead: the walk. -/
import Derived.Test.YtddnjdapdcopgaaDoorSame
import Derived.Test.YtddnjdapdcopgaaDoorSpecC
import Derived.Test.YtddnjdapdcopgaaDoorFields
import Derived.Test.YtddnjdapdcopgaaDoorWrL
import Derived.Test.YtddnjdapdcopgaaDoorWrApp
import Derived.BigQuiet
import Derived.Deep.QuietTactic
import Derived.Deep.DeepCutAuto
import Derived.Deep.CutBlock
import Derived.Deep.LoopGhost
import Derived.Deep.RegionLaw
import Derived.Laws.Concat
namespace Go.Proofs.YtddnjdapdcopgaaDoor
open Go.RowKit

/-- The two lists of fields are one. -/
theorem fields_one {L M fs parts : List (ByteArray × ByteArray)} {data rest fin : List UInt8} {k : Nat} (h : FirstR data fs k fin) (hm : MsgR [] data (.good parts rest)) (hL : SortedK L) (hM : SortedK M) (hl : ∀ key, filK L key = filK fs key) (hk : ∀ key, filK M key = filK (parts.map finP) key) : L = M ∧ fin = rest := by
  obtain ⟨_, h1, h2⟩ := h.forced hm
  exact ⟨sorted_unique hL hM (fun key => by rw [hl, hk, h2]), h1⟩

set_option maxRecDepth 100000 in
theorem conv_arg {a : Option Addr} {n c : Nat} {l : List UInt8} {w : World} (h : ArgB (.slice a n c) l w) (hn : n = l.length) : (convert 22 9 (.slice a n c)).run Tryd.prog w = .ok (.string (mkB l)) w := by
  subst hn
  rcases h with ⟨n2, c2, h1, rfl⟩ | ⟨b, c2, h1, hc⟩
  · injection h1 with h1 h2 h3
    subst h1
    show (convert 22 9 (.slice none 0 c)).run Tryd.prog w = _
    rw [run_convert_bytes_string w 22 9 5 none 0 c Tryd.underlying22 Tryd.underlying5 Tryd.underlying9]
    simp [Conv.bytesToString]
    rfl
  · injection h1 with h1 h2 h3
    subst h1
    exact run_convert_bytes_back w 22 9 5 b c l Tryd.underlying22 Tryd.underlying5 Tryd.underlying9 (fun j hj => hc j l[j] (List.getElem?_eq_getElem hj))
theorem conv_own {B : Nat} {v : Value} {l : List UInt8} {w : World} (h : OwnB B v l w) : (convert 22 9 v).run Tryd.prog w = .ok (.string (mkB l)) w := by
  rcases h.row with ⟨rfl, rfl⟩ | ⟨g, cap, rfl, _, _, _, _, hc⟩
  · exact conv_arg (.inl ⟨0, 0, rfl, rfl⟩) rfl
  · exact conv_arg (.inr ⟨_, _, rfl, fun j x hj => by rw [add_at, Nat.zero_add]; exact (hc j x hj).1⟩) rfl
theorem ArgB.only {v : Value} {l : List UInt8} {w w' : World} (h : ArgB v l w) (k : Only [] w w') : ArgB v l w' := by
  rcases h with h | ⟨b, c, rfl, hc⟩
  · exact .inl h
  · exact .inr ⟨b, c, rfl, fun j x hj => (World.cell?_of_block (k.kept _ (block_lt_of_cell (hc j x hj)) (by simp))).trans (hc j x hj)⟩
theorem OwnB.onlyN {B : Nat} {v : Value} {l : List UInt8} {w w' : World} (h : OwnB B v l w) (k : Only [] w w') : OwnB B v l w' := ownsRow_only h k (by simp)

theorem Only.nbelow {w w' : World} (h : Only [] w w') : Below w.heap.size w w' := h.below (fun _ hx => by cases hx) (Nat.le_refl _)

theorem StrRow.get {w : World} {ao : Option Addr} {len cap : Nat} {ss : List ByteArray} (h : StrRow w ao len cap ss) (k : Nat) (hk : k < len) : ∃ b off s, ao = some ⟨b, off, none⟩ ∧ ss[k]? = some s ∧ w.cell? ⟨b, off + k, none⟩ = some (.string s) := by
  rcases h with ⟨_, h1, _⟩ | ⟨b, off, h1, _, _, h4, _, h6⟩
  · omega
  · have hz : ss[k]? = some ss[k] := List.getElem?_eq_getElem (by omega)
    exact ⟨b, off, _, h1, hz, h6 k _ hz⟩
theorem isName_split {l : List UInt8} (h : isName l = true) : l.all nameC = true ∧ l ≠ [] := by
  unfold isName at h
  simp only [Bool.and_eq_true] at h
  exact ⟨h.1, fun e => by rw [e] at h; simp at h⟩
/-- i fields have been written. -/
structure WMid (w : World) (i : Nat) (T : List UInt8) (P F : List (ByteArray × ByteArray)) (fv : Value) (wr : World) : Prop where
  own : OwnF 39 w.heap.size fv F wr
  k : Only [] w wr
  srt : SortedK F
  fil : ∀ key, filK F key = filK P key
  len : F.length = i ∧ T.length ≤ 20000 * i
  fwd : Fwd T [] P
  fin : P.map finP = P

theorem app_list (a b : ByteArray) : (a ++ b).data.toList = a.data.toList ++ b.data.toList := by simp [ByteArray.data_append]
theorem ext_one (v : ByteArray) (j : Nat) (c : UInt8) (h : v.data.toList[j]? = some c) : (v.extract j (j + 1)).data.toList = [c] := by
  rw [ByteArray.data_extract, Array.toList_extract]
  obtain ⟨h1, h2⟩ := List.getElem?_eq_some_iff.1 h
  rw [List.extract_eq_take_drop, Nat.add_sub_cancel_left, List.drop_eq_getElem_cons h1, h2]
  rfl
/-- One field more. -/
theorem WMid.step {w wr W w' : World} {i n : Nat} {T T' : List UInt8} {P F : List (ByteArray × ByteArray)} {fv v' : Value} {K V : ByteArray} (h : WMid w i T P F fv wr) (hW : Only [] wr W) (hT : T'.length ≤ 20000 * (i + 1)) (hf : Fwd T' [] (P ++ [(K, V)])) (hV : trimB V.data.toList = V.data.toList) (hi : PlaceK F K n)
    (ho : OwnF 39 W.heap.size v' (insK F n K [V]) w') (hg : W.grownBy w' none) : WMid w (i + 1) T' (P ++ [(K, V)]) (insK F n K [V]) v' w' := by
  refine ⟨ho.base (Nat.le_trans h.k.size hW.size), (h.k.trans hW).trans (Only.of_row hg), insK_sorted h.srt hi, fun key => ?_, ⟨?_, hT⟩, hf, ?_⟩
  · by_cases hk : K = key
    · subst hk
      rw [insK_same hi, h.fil]
      unfold filK
      rw [List.filter_append]
      simp
    · rw [insK_other hk, h.fil]
      unfold filK
      rw [List.filter_append]
      simp [hk]
  · unfold insK
    have := hi.1
    have := h.len.1
    rw [List.length_append, List.length_append, List.length_take, List.length_drop]
    simp
    omega
  · rw [List.map_append, h.fin]
    show _ ++ [finP (K, V)] = _
    unfold finP
    rw [hV, list_mkB]

set_option maxHeartbeats 16000000 in
set_option maxRecDepth 100000 in
theorem fnWrittenIsRead.walk (ak av aw ab : Option Addr) (lk ck lv cv lw cw lb cb : Nat) (crlf : Bool) (ks vs : List ByteArray) (zs : List Int) (body : List UInt8) (eof full : Addr) (w : World) (hs : Sent2 eof full w) (hK : StrRow w ak lk ck ks) (hV : StrRow w av lv cv vs) (hW : IntRow w aw lw cw zs) (hB : ArgB (.slice ab lb cb) body w) (hlb : lb = body.length) :
    Calls Tryd.prog 4 #[.slice ak lk ck, .slice av lv cv, .slice aw lw cw, .bool crlf, .slice ab lb cb] w fun e w' => e = .returned (.bool true) ∧ Only [] w w' := by
  have hkb := hK.bound
  have hvb := hV.bound
  have hwb := hW.bound
  have HfK := hidF (fits_any ak lk ck ks w hK)
  have HfV := hidF (fits_any av lv cv vs w hV)
  have HKl := hidF hK.length
  have HVl := hidF hV.length
  have HK := hidF hK
  have HV := hidF hV
  have HW := hidF hW
  have HB := hidF hB
  have HS := hidF hs
  have Hlb := hidF hlb
  clear hK hV hW hB hs hlb
  go_enter Tryd.func4, Tryd.ntmps4
  go_wp2_with fail
  refine HfK.out.mono ?_
  rintro e w1 ⟨rfl, rfl⟩
  cases hfk : fitsL ks with
  | false =>
    go_wp2_with fail
    go_ret
    exact ⟨rfl, Only.refl _ _⟩
  | true =>
    have hfk2 := hidF (fitsL_get hfk)
    clear hfk
    go_wp2_with fail
    refine HfV.out.mono ?_
    rintro e w1 ⟨rfl, rfl⟩
    cases hfv : fitsL vs with
    | false =>
      go_wp2_with fail
      go_ret
      exact ⟨rfl, Only.refl _ _⟩
    | true =>
      have hfv2 := hidF (fitsL_get hfv)
      clear hfv HfK HfV
      by_cases h1 : 2147483647 < lw
      · have e1 : (2147483647 : Int) < (lw : Int) := by omega
        clear h1
        go_wp2_with fail
        go_ret
        exact ⟨rfl, Only.refl _ _⟩
      · have e1 : ¬ (2147483647 : Int) < (lw : Int) := by omega
        by_cases h2 : 65536 < lb
        · have e2 : (65536 : Int) < (lb : Int) := by omega
          clear h1 h2
          go_wp2_with fail
          all_goals
            go_ret
            exact ⟨rfl, Only.refl _ _⟩
        · have e2 : ¬ (2147483647 : Int) < (lb : Int) := by omega
          have e3 : ¬ (65536 : Int) < (lb : Int) := by omega
          by_cases h3 : 100 < lk
          · have e4 : (100 : Int) < (lk : Int) := by omega
            clear h1 h2
            go_wp2_with fail
            all_goals
              go_ret
              exact ⟨rfl, Only.refl _ _⟩
          · have e4 : ¬ (100 : Int) < (lk : Int) := by omega
            by_cases h4 : lk = 0
            · subst h4
              clear h1 h2
              go_wp2_with fail
              go_ret
              exact ⟨rfl, Only.refl _ _⟩
            · have e5 : ((lk : Int) == 0) = false := beq_eq_false_iff_ne.2 (by omega)
              by_cases h5 : lv = lk
              · subst h5
                have e6 : ((lv : Int) != (lv : Int)) = false := bne_self_eq_false _
                go_upto_if 60 with fail
                go_cut [11] (fun ev wc => ∃ e, ev = .string (mkB e) ∧ Eol e ∧ w = wc)
                case first =>
                  cases crlf with
                  | true =>
                    go_wp2_with fail
                    go_meet
                    exact ⟨[13, 10], rfl, .inr rfl, rfl⟩
                  | false =>
                    go_wp2_with fail
                    go_meet
                    exact ⟨[10], rfl, .inl rfl, rfl⟩
                case rest =>
                  obtain ⟨eo, rfl, heo, rfl⟩ := hcut
                  have Heo := hidF heo
                  obtain ⟨eb, heb⟩ : ∃ eb, eb = mkB eo := ⟨_, rfl⟩
                  rw [← heb]
                  have Heb := hidF heb
                  have hez : eb.size ≤ 2 := by rw [heb, size_mkB]; rcases heo with rfl | rfl <;> decide
                  clear heo heb h1 h2 h3 h4
                  go_wp2_with fail
                  go_loopg [12, 13, 14, 63] lv (fun g tv fv atv iv wr => ∃ (i : Nat) (tx : ByteArray) (at' : Nat), i ≤ lv ∧ iv = .int .i64 i ∧ tv = .string tx ∧ atv = .int .i64 at' ∧ at' ≤ 5000 * i ∧ Hid (g = lv - i ∧ ∃ P F, WMid w i tx.data.toList P F fv wr))
                  case atStart => exact ⟨0, ⟨#[]⟩, 0, Nat.zero_le _, rfl, rfl, rfl, Nat.zero_le _, rfl, [], [], OwnF.nil _ _ _, Only.refl _ _, List.Pairwise.nil, fun _ => rfl, ⟨rfl, by simp⟩, Fwd.start, rfl⟩
                  case round =>
                    obtain ⟨i, tx, at', hi, rfl, rfl, rfl, hat, hm⟩ := hrel
                    obtain ⟨hg, P, F, hF⟩ := hm.out
                    obtain ⟨af, cf, rfl⟩ := hF.own.form
                    have HF := hidF hF
                    have Hg := hidF hg
                    clear hm hF hg
                    by_cases hil : i = lv
                    · subst hil
                      have htx2 : tx.size ≤ 2000000 := by rw [size_of_list]; have := HF.out.len.2; omega
                      have p7 : ∀ w, (Op.stringOp .add tx eb).run Tryd.prog w = .ok (.string (tx ++ eb)) w := fun w => run_string_add_sum w _ _ (by omega)
                      have hse : (tx ++ eb).size = tx.size + eb.size := ByteArray.size_append
                      obtain ⟨cap, w1, hconv, hcap, hO1, hcl, hsp⟩ := conv_bytes (tx ++ eb) wr (by unfold maxLen; omega)
                      obtain ⟨n, hn⟩ : ∃ n, n = (tx ++ eb).size := ⟨_, rfl⟩
                      rw [← hn] at hconv hcap
                      have HB1 := hidF (HB.out.only (HF.out.k.trans hO1))
                      have Hcl := hidF hcl
                      have Hsp := hidF hsp
                      have Hcap := hidF hcap
                      have HnT := hidF (show (tx ++ eb).data.toList.length = n from by rw [hn, size_of_list])
                      have Hmax := hidF (show n + lb ≤ 1000000000 from by omega)
                      have K1 := hidF (And.intro (HF.out.k.trans hO1) (show w.heap.size ≤ wr.heap.size from HF.out.k.size))
                      have K1b := hidF hO1
                      have Hmsg := hidF (show MsgR [] ((tx ++ eb).data.toList ++ body) (.good P body) from by
                        have h1 := HF.out.fwd.all Heo.out (body := body)
                        rw [app_list, Heb.out, mkB_list, List.append_assoc]
                        exact h1)
                      clear hcap hO1 hcl hsp hn hse
                      go_wp2_with (at_builtin; refine wpList_append_tail rfl _ _ rfl wr.heap.size n cap (tx ++ eb).data.toList body ab lb cb w1 rfl rfl HnT.out Hcap.out Hcl.out Hsp.out HB1.out Hlb.out Hmax.out ?_; intro a' c' w2 hA hO2)
                      have K2 := hidF (show Only [] w w2 from K1.out.1.fresh hO2.out (fun x hx => by obtain rfl := List.mem_singleton.1 hx; exact .inl K1.out.2))
                      have K2b := hidF (show Only [] wr w2 from K1b.out.fresh hO2.out (fun x hx => by obtain rfl := List.mem_singleton.1 hx; exact .inl (Nat.le_refl _)))
                      have hfl := hidF (fields_any (.slice a' (n + lb) c') ((tx ++ eb).data.toList ++ body) eof full w2 (HS.out.only K2.out) hA.out (by rw [List.length_append, HnT.out, ← Hlb.out]; exact Hmax.out))
                      refine hfl.out.mono ?_
                      rintro e w3 ⟨k3, hcase⟩
                      have K3 := hidF (K2.out.trans k3)
                      have K3b := hidF (K2b.out.trans k3)
                      clear hfl k3 hA hO2 hconv p7
                      rcases hcase with ⟨rfl, fs, k, fin, hfr, hk⟩ | ⟨fv, bv, L, fs, k, fin, rfl, hfr, hk, hof, hob, hsl, hfl, hLl⟩
                      · have h3 := (hfr.forced Hmsg.out).1
                        omega
                      · obtain ⟨_, rfl, h4⟩ := hfr.forced Hmsg.out
                        have hLF : L = F := sorted_unique hsl HF.out.srt (fun key => by rw [hfl, h4, HF.out.fin, HF.out.fil])
                        subst hLF
                        have hsm := hidF (same_any _ _ fv (.slice af L.length cf) L w3 hof (HF.out.own.only K3b.out (by simp)) (by rw [HF.out.len.1]; omega))
                        obtain ⟨a5, c5, rfl⟩ := hof.form
                        obtain ⟨a6, n6, c6, rfl⟩ := hob.form3
                        have Hob := hidF hob
                        clear hfr hk hof hob hsl hfl hLl h4
                        go_wp2_with fail
                        refine hsm.out.mono ?_
                        rintro e w4 ⟨rfl, k4⟩
                        have HF4 := hidF (K3.out.trans k4)
                        have hc1 := conv_own (Hob.out.onlyN k4)
                        have hc2 := conv_arg (HB.out.only HF4.out) Hlb.out
                        have heq : ((mkB fin).toList == (mkB fin).toList) = true := beq_self_eq_true _
                        clear k4 hsm
                        go_wp2_with fail
                        go_ret
                        exact ⟨rfl, HF4.out⟩
                    · have hlt : i < lv := by omega
                      have kb := HF.out.k.nbelow
                      obtain ⟨bk, ok, kk, rfl, hkk, qk⟩ := (HK.out.below kb).get i hlt
                      obtain ⟨bv, ov, vv, rfl, hvv, qv⟩ := (HV.out.below kb).get i hlt
                      have Hkk := hidF (And.intro hkk hvv)
                      have hkz : kk.size ≤ 2147483647 := hfk2.out.2 _ (List.mem_of_getElem? hkk)
                      have hvz : vv.size ≤ 2147483647 := hfv2.out.2 _ (List.mem_of_getElem? hvv)
                      have wsum : IntKind.i64.wrap ((kk.size : Int) + (vv.size : Int)) = (kk.size : Int) + (vv.size : Int) := IntWalk.i64_in _ (by omega)
                      have lv1 : (i : Int) < (lv : Int) := by omega
                      clear hkk hvv hil kb
                      go_upto_region 14 with fail
                      go_cut [108] (fun bv wc => ∃ b : Bool, bv = .bool b ∧ Hid (Only [] wr wc ∧ (b = false → isName kk.data.toList = true ∧ kk.size + vv.size ≤ 4096 ∧ plainL vv.data.toList = true ∧ trimB vv.data.toList = vv.data.toList ∧ vv.data.toList ≠ [])))
                      case first =>
                        cases hnk : isName kk.data.toList with
                        | false =>
                          have hin := hidF (show ∀ W, Calls Tryd.prog 9 #[.string kk] W fun e w' => e = .returned (.bool false) ∧ w' = W from fun W => (isName_any kk W (by omega)).mono fun e w' h => ⟨by rw [h.1, hnk], h.2.symm⟩)
                          clear hnk
                          go_quiet ((go_at_call 9; refine Calls.quiet_of_same (hin.out _)))
                          go_wp2_with fail
                          go_meet
                          exact ⟨true, rfl, Only.drewN _ _ _, fun h => by cases h⟩
                        | true =>
                          have hin := hidF (show ∀ W, Calls Tryd.prog 9 #[.string kk] W fun e w' => e = .returned (.bool true) ∧ w' = W from fun W => (isName_any kk W (by omega)).mono fun e w' h => ⟨by rw [h.1, hnk], h.2.symm⟩)
                          have Hnk := hidF hnk
                          clear hnk
                          by_cases hsz : 4096 < kk.size + vv.size
                          · have hs1 : (4096 : Int) < (kk.size : Int) + (vv.size : Int) := by omega
                            clear hsz
                            go_quiet ((go_at_call 9; refine Calls.quiet_of_same (hin.out _)))
                            go_wp2_with fail
                            go_meet
                            exact ⟨true, rfl, Only.drewN _ _ _, fun h => by cases h⟩
                          · have hs1 : decide ((4096 : Int) < (kk.size : Int) + (vv.size : Int)) = false := decide_eq_false (by omega)
                            have Hsz := hidF (show kk.size + vv.size ≤ 4096 from by omega)
                            clear hsz
                            cases hpb : plainL vv.data.toList with
                            | false =>
                              have hpl := hidF (show ∀ W, Calls Tryd.prog 10 #[.string vv] W fun e w' => e = .returned (.bool false) ∧ w' = W from fun W => (plain_any vv W (by omega)).mono fun e w' h => ⟨by rw [h.1, hpb], h.2.symm⟩)
                              clear hpb
                              go_quiet ((first | (go_at_call 9; refine Calls.quiet_of_same (hin.out _)) | (go_at_call 10; refine Calls.quiet_of_same (hpl.out _))))
                              go_wp2_with fail
                              go_meet
                              exact ⟨true, rfl, Only.drewN _ _ _, fun h => by cases h⟩
                            | true =>
                              have hpl := hidF (show ∀ W, Calls Tryd.prog 10 #[.string vv] W fun e w' => e = .returned (.bool true) ∧ w' = W from fun W => (plain_any vv W (by omega)).mono fun e w' h => ⟨by rw [h.1, hpb], h.2.symm⟩)
                              have Hpb := hidF hpb
                              clear hpb
                              by_cases htv : trimB vv.data.toList = vv.data.toList
                              · have htr := hidF (show ∀ W, Calls Tryd.prog 11 #[.string vv] W fun e w' => e = .returned (.string vv) ∧ w' = W from fun W => (trimmed_any vv W (by have := Hsz.out; omega)).mono fun e w' h => ⟨by rw [h.1, htv, list_mkB], h.2.symm⟩)
                                have heq : (vv.toList == vv.toList) = true := beq_self_eq_true _
                                have Htv := hidF htv
                                clear htv
                                by_cases hv0 : vv.size = 0
                                · have he0 : (vv.toList == ([] : List UInt8)) = true := by
                                    rw [beq_iff_eq, Lib.toList_data]
                                    exact List.eq_nil_of_length_eq_zero (by rw [← size_of_list]; exact hv0)
                                  clear hv0
                                  go_quiet ((first | (go_at_call 9; refine Calls.quiet_of_same (hin.out _)) | (go_at_call 10; refine Calls.quiet_of_same (hpl.out _)) | (go_at_call 11; refine Calls.quiet_of_same (htr.out _))))
                                  go_wp2_with fail
                                  go_meet
                                  exact ⟨true, rfl, Only.drewN _ _ _, fun h => by cases h⟩
                                · have hne0 : vv.data.toList ≠ [] := fun e => hv0 (by rw [size_of_list, e]; rfl)
                                  have he0 : (vv.toList == ([] : List UInt8)) = false := by
                                    rw [beq_eq_false_iff_ne, Lib.toList_data]
                                    exact hne0
                                  have HR := hidF (show True → isName kk.data.toList = true ∧ kk.size + vv.size ≤ 4096 ∧ plainL vv.data.toList = true ∧ trimB vv.data.toList = vv.data.toList ∧ vv.data.toList ≠ [] from fun _ => ⟨Hnk.out, Hsz.out, Hpb.out, Htv.out, hne0⟩)
                                  clear hv0 hne0
                                  go_quiet ((first | (go_at_call 9; refine Calls.quiet_of_same (hin.out _)) | (go_at_call 10; refine Calls.quiet_of_same (hpl.out _)) | (go_at_call 11; refine Calls.quiet_of_same (htr.out _))))
                                  go_wp2_with fail
                                  go_meet
                                  exact ⟨false, rfl, Only.drewN _ _ _, fun _ => HR.out trivial⟩
                              · obtain ⟨tr, htre⟩ : ∃ tr, tr = mkB (trimB vv.data.toList) := ⟨_, rfl⟩
                                have htr := hidF (show ∀ W, Calls Tryd.prog 11 #[.string vv] W fun e w' => e = .returned (.string tr) ∧ w' = W from fun W => (trimmed_any vv W (by have := Hsz.out; omega)).mono fun e w' h => ⟨by rw [h.1, htre], h.2.symm⟩)
                                have hne : (tr.toList == vv.toList) = false := str_ne (fun e => htv (by
                                  have h1 := congrArg (fun b : ByteArray => b.data.toList) (htre.symm.trans e)
                                  simp only [mkB_list] at h1
                                  exact h1))
                                clear htv htre
                                go_quiet ((first | (go_at_call 9; refine Calls.quiet_of_same (hin.out _)) | (go_at_call 10; refine Calls.quiet_of_same (hpl.out _)) | (go_at_call 11; refine Calls.quiet_of_same (htr.out _))))
                                go_wp2_with fail
                                go_meet
                                exact ⟨true, rfl, Only.drewN _ _ _, fun h => by cases h⟩
                      case rest =>
                        obtain ⟨b, rfl, hcb⟩ := hcut
                        cases b with
                        | true =>
                          go_wp2_with fail
                          go_ret
                          exact ⟨rfl, HF.out.k.trans hcb.out.1⟩
                        | false =>
                          obtain ⟨hnk, hsz, hpb, htv, hv0⟩ := hcb.out.2 rfl
                          have k1 := hcb.out.1
                          have Hn := hidF (isName_split hnk)
                          have Hv := hidF (And.intro (clean_plain hpb) (And.intro htv (And.intro hv0 (trimmed_ends htv))))
                          have K1 := hidF k1
                          have Htx := hidF (show tx.size ≤ 20000 * i from by rw [size_of_list]; exact HF.out.len.2)
                          have htx2 : tx.size ≤ 2000000 := by have := Htx.out; omega
                          have qv1 : wc.cell? ⟨bv, ov + i, none⟩ = some (.string vv) := k1.cell (by simp) qv
                          have hbl := hidF (blank_any aw lw cw zs at' wc (HW.out.below (HF.out.k.trans k1).nbelow) (by omega))
                          have p1 : ∀ w, (Op.stringOp .add kk ⟨#[58]⟩).run Tryd.prog w = .ok (.string (kk ++ ⟨#[58]⟩)) w := fun w => run_string_add_sum w _ _ (by show kk.size + 1 ≤ _; omega)
                          clear hcb hnk hpb htv hv0 k1 wsum qk qv
                          go_wp2_with fail
                          refine hbl.out.mono ?_
                          rintro e w2 ⟨bl, rfl, hbb, hb3, k2⟩
                          obtain ⟨blb, hblb⟩ : ∃ x, x = mkB bl := ⟨_, rfl⟩
                          rw [← hblb]
                          have hbz : blb.size ≤ 3 := by rw [hblb, size_mkB]; exact hb3
                          have p2 : ∀ w, (Op.stringOp .add (kk ++ ⟨#[58]⟩) blb).run Tryd.prog w = .ok (.string (kk ++ ⟨#[58]⟩ ++ blb)) w := fun w => run_string_add_sum w _ _ (by rw [ByteArray.size_append]; show kk.size + 1 + blb.size ≤ _; omega)
                          have p3 : ∀ w, (Op.stringOp .add tx (kk ++ ⟨#[58]⟩ ++ blb)).run Tryd.prog w = .ok (.string (tx ++ (kk ++ ⟨#[58]⟩ ++ blb))) w := fun w => run_string_add_sum w _ _ (by rw [ByteArray.size_append, ByteArray.size_append]; show tx.size + (kk.size + 1 + blb.size) ≤ _; omega)
                          have qv2 : w2.cell? ⟨bv, ov + i, none⟩ = some (.string vv) := k2.cell (by simp) qv1
                          have HS0 := hidF (show FSt (tx ++ (kk ++ ⟨#[58]⟩ ++ blb)).data.toList P kk.data.toList vv.data.toList bl 0 from by
                            have h1 := FSt.start (k := kk.data.toList) (wb := bl) HF.out.fwd vv.data.toList
                            rw [app_list, app_list, app_list, hblb, mkB_list]
                            simpa using h1)
                          have Hz0 := hidF (show (tx ++ (kk ++ ⟨#[58]⟩ ++ blb)).size ≤ 20000 * i + 4100 from by rw [ByteArray.size_append, ByteArray.size_append, ByteArray.size_append]; have := Htx.out; show tx.size + (kk.size + 1 + blb.size) ≤ _; omega)
                          have K2 := hidF (K1.out.trans k2)
                          have Hbb := hidF hbb
                          clear hbl hbb hb3 k2 hblb qv1
                          go_upto_region 17 with fail
                          generalize tx ++ (kk ++ ⟨#[58]⟩ ++ blb) = tx0 at HS0 Hz0 ⊢
                          clear p1 p2 p3 hbz
                          go_wp2_with fail
                          go_loopg [12, 14, 125] vv.size (fun g tv atv jv wq => ∃ (j : Nat) (tx1 : ByteArray) (at1 : Nat), j ≤ vv.size ∧ jv = .int .i64 j ∧ tv = .string tx1 ∧ atv = .int .i64 at1 ∧ at1 ≤ 5000 * i + 1 + j ∧ Hid (g = vv.size - j ∧ tx1.size ≤ 20000 * i + 4100 + 3 * j ∧ FSt tx1.data.toList P kk.data.toList vv.data.toList bl j ∧ Only [] wr wq))
                          case atStart => exact ⟨0, tx0, at' + 1, Nat.zero_le _, rfl, rfl, by simp, by omega, rfl, by have := Hz0.out; omega, HS0.out, K2.out⟩
                          case round =>
                            obtain ⟨j, tx1, at1, hj, rfl, rfl, rfl, hat1, hH⟩ := hrel
                            obtain ⟨hg1, hz1, hfs, hk1⟩ := hH.out
                            have Hg1 := hidF hg1
                            have Hz1 := hidF hz1
                            have Hfs := hidF hfs
                            have Hk1 := hidF hk1
                            have hz1b : tx1.size ≤ 3000000 := by omega
                            clear hH hg1 hz1 hfs
                            by_cases hjn : j = vv.size
                            · subst hjn
                              have p4 : ∀ w, (Op.stringOp .add tx1 eb).run Tryd.prog w = .ok (.string (tx1 ++ eb)) w := fun w => run_string_add_sum w _ _ (by omega)
                              have hcan := hidF (show ∀ W, Calls Tryd.prog 14 #[.string kk] W fun e w' => e = .returned (.string (mkB (canon kk.data.toList))) ∧ Below W.heap.size W w' from fun W => specCanonical_any kk W (by omega))
                              have HFw := hidF (show Fwd (tx1 ++ eb).data.toList [] (P ++ [(mkB (canon kk.data.toList), vv)]) from by
                                have h1 := (show FSt tx1.data.toList P kk.data.toList vv.data.toList bl vv.data.toList.length from by rw [← size_of_list]; exact Hfs.out).done Heo.out Hn.out.1 Hn.out.2 Hv.out.1 Hbb.out Hv.out.2.1 Hv.out.2.2.1
                                rw [app_list, Heb.out, mkB_list]
                                rw [list_mkB] at h1
                                exact h1)
                              go_wp2_with fail
                              refine (hcan.out _).mono ?_
                              rintro e w3 ⟨rfl, hb3⟩
                              have hk3 := hidF (Hk1.out.trans (Only.of_below hb3))
                              obtain ⟨K, hK⟩ : ∃ K, K = mkB (canon kk.data.toList) := ⟨_, rfl⟩
                              rw [← hK] at HFw ⊢
                              have hins := hidF (insert_any w.heap.size (.slice af F.length cf) F K vv w3 (HF.out.own.only hk3.out (by simp)) HF.out.srt (by rw [HF.out.len.1]; omega))
                              clear hb3 hK
                              go_wp2_with fail
                              refine hins.out.mono ?_
                              rintro e w4 ⟨v', n', rfl, hpl, how, hgr⟩
                              have hTl : (tx1 ++ eb).data.toList.length ≤ 20000 * (i + 1) := by
                                rw [← size_of_list, ByteArray.size_append]
                                have := Hz1.out
                                omega
                              have HM2 := hidF (HF.out.step hk3.out hTl HFw.out Hv.out.2.1 hpl how hgr)
                              have hat2 : at1 ≤ 5000 * (i + 1) := by omega
                              clear hpl how hgr hTl
                              go_wp2_with fail
                              go_roundg (lv - (i + 1))
                              case measure => have := Hg.out; omega
                              case rel => exact ⟨i + 1, tx1 ++ eb, at1, by omega, by simp, rfl, rfl, hat2, rfl, _, _, HM2.out⟩
                            · have hjl : j < vv.size := by omega
                              obtain ⟨c, hc⟩ : ∃ c, c = vv[j]'hjl := ⟨_, rfl⟩
                              have hgc := get_of vv j hjl
                              rw [← hc] at hgc
                              have hcn : ((vv[j]'hjl).toNat : Int) = (c.toNat : Int) := by rw [hc]
                              have Hgc := hidF hgc
                              have hvl : vv.size = vv.data.toList.length := size_of_list vv
                              have Hvl := hidF hvl
                              clear hc hgc hjn hvl
                              go_upto_region 22 with fail
                              go_cut [165] (fun bv wc => ∃ b : Bool, bv = .bool b ∧ Hid (Only [] wr wc ∧ (b = true → 0 < j ∧ c = 32 ∧ (∃ p, vv.data.toList[j - 1]? = some p ∧ isBl p = false) ∧ ∃ a, vv.data.toList[j + 1]? = some a ∧ isBl a = false)))
                              case first =>
                                by_cases h32 : c = 32
                                · have hcn2 : ((vv[j]'hjl).toNat : Int) = 32 := by rw [hcn, h32]; rfl
                                  have hj0 : j ≠ 0 := fun e => by
                                    have h1 := Hv.out.2.2.2.1 c (by rw [List.head?_eq_getElem?, ← e]; exact Hgc.out)
                                    rw [h32] at h1
                                    cases h1
                                  obtain ⟨j, rfl⟩ : ∃ j', j = j' + 1 := ⟨j - 1, by omega⟩
                                  have hjl2 : j < vv.size := by omega
                                  obtain ⟨p, hp⟩ : ∃ p, p = vv[j]'hjl2 := ⟨_, rfl⟩
                                  have hgp := get_of vv j hjl2
                                  rw [← hp] at hgp
                                  have hpn : ((vv[j]'hjl2).toNat : Int) = (p.toNat : Int) := by rw [hp]
                                  have Hgp := hidF hgp
                                  have Hc := hidF h32
                                  clear hp hgp h32 hcn hj0
                                  cases hpb : isBl p with
                                  | true =>
                                    have hpc := isBl_yes hpb
                                    clear hpb
                                    rcases hpc with rfl | rfl
                                    · have hpn2 : ((vv[j]'hjl2).toNat : Int) = 32 := by rw [hpn]; rfl
                                      clear hpn
                                      go_wp2_with fail
                                      go_meet
                                      exact ⟨false, rfl, Only.refl _ _, fun h => by cases h⟩
                                    · have hpn2 : ((vv[j]'hjl2).toNat : Int) = 9 := by rw [hpn]; rfl
                                      clear hpn
                                      go_wp2_with fail
                                      go_meet
                                      exact ⟨false, rfl, Only.refl _ _, fun h => by cases h⟩
                                  | false =>
                                    obtain ⟨f1, f2, f3, f4⟩ := isBl_no hpb
                                    have Hpb2 := hidF hpb
                                    have hjl3 : j + 1 + 1 < vv.size := by
                                      rcases Nat.lt_or_ge (j + 1 + 1) vv.size with h1 | h1
                                      · exact h1
                                      · have h2 := Hv.out.2.2.2.2 c (by
                                          rw [List.getLast?_eq_getElem?, ← Hvl.out, show vv.size - 1 = j + 1 by omega]
                                          exact Hgc.out)
                                        rw [Hc.out] at h2
                                        cases h2
                                    obtain ⟨a, ha⟩ : ∃ a, a = vv[j + 1 + 1]'hjl3 := ⟨_, rfl⟩
                                    have hga := get_of vv (j + 1 + 1) hjl3
                                    rw [← ha] at hga
                                    have han : ((vv[j + 1 + 1]'hjl3).toNat : Int) = (a.toNat : Int) := by rw [ha]
                                    have Hga := hidF hga
                                    clear ha hga hpb
                                    cases hab : isBl a with
                                    | true =>
                                      have hac := isBl_yes hab
                                      clear hab
                                      rcases hac with rfl | rfl
                                      · have han2 : ((vv[j + 1 + 1]'hjl3).toNat : Int) = 32 := by rw [han]; rfl
                                        clear han
                                        go_wp2_with fail
                                        go_meet
                                        exact ⟨false, rfl, Only.refl _ _, fun h => by cases h⟩
                                      · have han2 : ((vv[j + 1 + 1]'hjl3).toNat : Int) = 9 := by rw [han]; rfl
                                        clear han
                                        go_wp2_with fail
                                        go_meet
                                        exact ⟨false, rfl, Only.refl _ _, fun h => by cases h⟩
                                    | false =>
                                      obtain ⟨g1, g2, g3, g4⟩ := isBl_no hab
                                      have HR := hidF (show 0 < j + 1 ∧ c = 32 ∧ (∃ p, vv.data.toList[j + 1 - 1]? = some p ∧ isBl p = false) ∧ ∃ a, vv.data.toList[j + 1 + 1]? = some a ∧ isBl a = false from ⟨by omega, Hc.out, ⟨p, Hgp.out, Hpb2.out⟩, a, Hga.out, hab⟩)
                                      have hbl2 := hidF (blank_any aw lw cw zs at1 _ (HW.out.below ((HF.out.k.trans Hk1.out)).nbelow) (by omega))
                                      clear hab
                                      go_wp2_with fail
                                      refine hbl2.out.mono ?_
                                      rintro e w2 ⟨bl2, rfl, _, _, k2⟩
                                      have K22 := hidF k2
                                      clear k2 hbl2
                                      cases bl2 with
                                      | nil =>
                                        have hne2 : ((mkB []).toList == ([] : List UInt8)) = true := by rw [beq_iff_eq, Lib.toList_data, mkB_list]
                                        go_wp2_with fail
                                        go_meet
                                        exact ⟨false, rfl, K22.out, fun h => by cases h⟩
                                      | cons x r =>
                                        have hne2 : ((mkB (x :: r)).toList == ([] : List UInt8)) = false := by rw [beq_eq_false_iff_ne, Lib.toList_data, mkB_list]; simp
                                        go_wp2_with fail
                                        go_meet
                                        exact ⟨true, rfl, K22.out, fun _ => HR.out⟩
                                · have hcn2 : ((c.toNat : Int) == 32) = false := beq_eq_false_iff_ne.2 (fun e => h32 (UInt8.toNat_inj.1 (by have : (32 : UInt8).toNat = 32 := rfl; omega)))
                                  clear h32
                                  go_wp2_with fail
                                  go_meet
                                  exact ⟨false, rfl, Only.refl _ _, fun h => by cases h⟩
                              case rest =>
                                obtain ⟨b, rfl, hcb⟩ := hcut
                                have Hcb := hidF hcb.out
                                have kq := hidF (Hk1.out.trans hcb.out.1)
                                have wj : IntKind.i64.wrap ((j : Int) + 1) = ((j + 1 : Nat) : Int) := by rw [IntWalk.i64_in _ (by omega)]; omega
                                have wj0 : (0 : Int) ≤ (j : Int) + 1 := by omega
                                have wj1 : (j : Int) + 1 ≤ (vv.size : Int) := by omega
                                have wj2 : (j : Int) ≤ (j : Int) + 1 := by omega
                                have hez2 : (vv.extract j (j + 1)).size = 1 := by rw [ByteArray.size_extract]; omega
                                clear hcb hcn
                                cases b with
                                | true =>
                                  obtain ⟨hj0, hc32, ⟨p, hgp, hpb⟩, a, hga, hab⟩ := Hcb.out.2 rfl
                                  have p5 : ∀ w, (Op.stringOp .add tx1 eb).run Tryd.prog w = .ok (.string (tx1 ++ eb)) w := fun w => run_string_add_sum w _ _ (by omega)
                                  have p6 : ∀ w, (Op.stringOp .add (tx1 ++ eb) (vv.extract j (j + 1))).run Tryd.prog w = .ok (.string (tx1 ++ eb ++ vv.extract j (j + 1))) w := fun w => run_string_add_sum w _ _ (by rw [ByteArray.size_append, hez2]; omega)
                                  have HNew := hidF (show FSt (tx1 ++ eb ++ vv.extract j (j + 1)).data.toList P kk.data.toList vv.data.toList bl (j + 1) from by
                                    have h1 := Hfs.out.fold Heo.out Hn.out.1 Hn.out.2 Hv.out.1 Hbb.out hj0 Hv.out.2.2.2.1 (by rw [Hgc.out, hc32]) hgp hpb hga hab
                                    rw [app_list, app_list, Heb.out, mkB_list, ext_one vv j c Hgc.out, hc32]
                                    exact h1)
                                  have HNz := hidF (show (tx1 ++ eb ++ vv.extract j (j + 1)).size ≤ 20000 * i + 4100 + 3 * (j + 1) from by rw [ByteArray.size_append, ByteArray.size_append, hez2]; have := Hz1.out; omega)
                                  clear hj0 hc32 hgp hpb hga hab
                                  go_wp2_with fail
                                  go_roundg (vv.size - (j + 1))
                                  case measure => have := Hg1.out; omega
                                  case rel => exact ⟨j + 1, _, at1 + 1, by omega, by simp, rfl, by simp, by omega, rfl, HNz.out, HNew.out, kq.out⟩
                                | false =>
                                  have p6 : ∀ w, (Op.stringOp .add tx1 (vv.extract j (j + 1))).run Tryd.prog w = .ok (.string (tx1 ++ vv.extract j (j + 1))) w := fun w => run_string_add_sum w _ _ (by rw [hez2]; omega)
                                  have HNew := hidF (show FSt (tx1 ++ vv.extract j (j + 1)).data.toList P kk.data.toList vv.data.toList bl (j + 1) from by
                                    rw [app_list, ext_one vv j c Hgc.out]
                                    exact Hfs.out.step Hgc.out)
                                  have HNz := hidF (show (tx1 ++ vv.extract j (j + 1)).size ≤ 20000 * i + 4100 + 3 * (j + 1) from by rw [ByteArray.size_append, hez2]; have := Hz1.out; omega)
                                  go_wp2_with fail
                                  go_roundg (vv.size - (j + 1))
                                  case measure => have := Hg1.out; omega
                                  case rel => exact ⟨j + 1, _, at1 + 1, by omega, by simp, rfl, by simp, by omega, rfl, HNz.out, HNew.out, kq.out⟩
              · have e6 : ((lv : Int) != (lk : Int)) = true := by rw [bne_iff_ne]; omega
                clear h1 h2
                go_wp2_with fail
                go_ret
                exact ⟨rfl, Only.refl _ _⟩
end Go.Proofs.YtddnjdapdcopgaaDoor
