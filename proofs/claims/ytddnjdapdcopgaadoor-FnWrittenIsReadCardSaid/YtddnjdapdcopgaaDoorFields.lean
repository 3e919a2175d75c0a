/- impl.Fields: the walk. -/
import Derived.Test.YtddnjdapdcopgaaDoorFieldW
import Derived.Deep.DeepCutAuto
import Derived.Deep.CutBlock
import Derived.Deep.LoopGhost
namespace Go.Proofs.YtddnjdapdcopgaaDoor
open Go.RowKit
open Go.Maps (Keyed)
open Go.ChangeMaps Go.Maps Go.WideMaps

/-- What impl.Fields leaves. -/
def FieldsOut (data : List UInt8) (w : World) (e : Ending) (w' : World) : Prop := Only [] w w' ∧
  ((e = .returned (.tuple #[.slice none 0 0, .slice none 0 0, .bool false]) ∧ ∃ fs k fin, FirstR data fs k fin ∧ (k = 2 ∨ k = 1)) ∨
   (∃ fv bv L fs k fin, e = .returned (.tuple #[fv, bv, .bool true]) ∧ FirstR data fs k fin ∧ (k = 0 ∨ k = 1) ∧ OwnF 55 w.heap.size fv L w' ∧ OwnB w.heap.size bv fin w' ∧ SortedK L ∧ (∀ key, filK L key = filK fs key) ∧ L.length ≤ data.length))

set_option maxHeartbeats 16000000 in
set_option maxRecDepth 100000 in
theorem fields_any (v : Value) (l : List UInt8) (eof full : Addr) (w : World) (hs : Sent2 eof full w) (h : ArgB v l w) (hl : l.length ≤ 1000000000) :
    Calls Tryd.prog 5 #[v] w (FieldsOut l w) := by
  have hcl := hidF (clone_any v l w h hl)
  have Hs := hidF hs
  have Hl := hidF hl
  clear hs h hl
  go_enter Tryd.func5, Tryd.ntmps5
  go_wp2_with fail
  refine hcl.out.mono ?_
  rintro e w1 ⟨v', rfl, ho, hb⟩
  obtain ⟨p, cap, rfl⟩ := ho.slice
  have hnr := hidF (bytesNewReader_any p l.length cap w1)
  have Ho := hidF ho
  have Hb := hidF hb
  clear hcl ho hb
  go_wp2_with fail
  refine hnr.out.mono ?_
  rintro e w2 ⟨S, rfl, hS, k2, hob⟩
  obtain ⟨D, p2, scap, he, hrd⟩ := rdAt_made Hl.out Hs.out Ho.out Hb.out hS k2 hob
  injection he with he1 _ he3
  subst he1; subst he3
  have Hrd := hidF hrd
  have hrm := hidF (readMessage_any S D l p cap eof full w2 hrd)
  have K2 := hidF (show Only [] w w2 ∧ w.heap.size ≤ S from ⟨(Only.of_below Hb.out).trans k2, Nat.le_trans Hb.out.size hS⟩)
  clear hnr hS k2 hob hrd
  go_wp2_with fail
  refine hrm.out.mono ?_
  rintro e w3 ⟨hO, hcase⟩
  have K3 := hidF (show Only [] w w3 from K2.out.1.fresh hO (fun x hx => by obtain rfl := List.mem_singleton.1 hx; exact .inl K2.out.2))
  clear hrm hO
  rcases hcase with ⟨er, fs, k, fin, rfl, hfr, hk⟩ | ⟨Mb, M, R, F, ob, fs, k, fin, rfl, hMb, hM, hX, hR, hF, hRM, hFM, hq, hfr, hln, hk⟩
  · have HF := hidF (show FieldsOut l w (.returned (.tuple #[.slice none 0 0, .slice none 0 0, .bool false])) w3 from ⟨K3.out, .inl ⟨rfl, fs, k, fin, hfr, hk⟩⟩)
    unfold eofV
    clear hfr hk
    go_wp2_with fail
    go_ret3
    exact HF.out
  · have HMb := hidF hMb
    have HX := hidF hX
    have Hq := hidF hq
    have Hfr := hidF (And.intro hfr hk)
    have Hln := hidF (And.intro hln (And.intro hM (And.intro hR (And.intro hF (And.intro hRM hFM)))))
    have qM := hMb.cell 0 _ rfl
    clear hMb hM hX hR hF hRM hFM hq hfr hln hk
    obtain ⟨D0, val, hown, hIs, hat, hrow, hap, hav⟩ := HX.out
    have Hown := hidF hown
    have Hval := hidF (And.intro hIs (And.intro hat (And.intro hrow (And.intro hap hav))))
    clear hown hIs hat hrow hap hav
    go_wp2_with (first | (at_range; go_loud (refine wpList_range_own _ rfl _ 50 rfl 9 31 keyedStr Tryd.underlying50 rawR M fs.length D0 rfl Hown.out ?_; intro w4 hrg hg hs4)) | go_in)
    go_frame
    go_loopg [2] (Maps.size D0) (fun cnt v wr => ∃ left, wr.ranges Tryd.prog 9 rawR M w3.heap.size fs.length D0 left cnt ∧ Hid (∃ L, FMid w3.heap.size fs left L v w3 wr))
    case atStart =>
      exact ⟨_, hrg, [], FMid.start Hval.out.2.1 Hval.out.2.2.1 hg hs4⟩
    case round =>
      obtain ⟨left, hrg3, hmid⟩ := hrel
      go_wp2_with (first | (at_next; go_loud (refine wpList_next_ranges _ rfl _ rfl 9 keyedStr rawR Value.string (fun c : Value => c) (fun key kl hkey => by obtain ⟨s, h1, _⟩ := string_of_keyOf Tryd.underlying9 hkey; exact ⟨s, h1⟩) (fun v y _ => ⟨v, rfl⟩) M w3.heap.size fs.length D0 left gk rfl hrg3 ?_ ?_)) | go_in)
      · intro hc0 hl0
        obtain ⟨L, hm⟩ := hmid.out
        obtain ⟨fa, fcap, rfl⟩ := hm.own.form
        obtain ⟨n, hn⟩ : ∃ n, n = L.length := ⟨_, rfl⟩
        have hfil : ∀ key, filK L key = filK fs key := fun key => by rw [hm.fil, hl0]; rfl
        have Hsf := hidF (And.intro hm.srt (And.intro hfil (show L.length ≤ l.length from by have h1 := hm.le; have h2 := Hln.out.1; omega)))
        have hS : w.heap.size ≤ S := K2.out.2
        have HB := hidF (BMid.start hm HMb.out Hq.out K3.out (Nat.le_trans K2.out.1.size Hln.out.2.2.1) (Nat.le_trans K2.out.1.size Hln.out.2.2.2.1) hS)
        have Hmb := hidF HMb.out.lt
        have hmk := fun W => make_bytes 512 (by decide) W
        simp only [Int.cast_ofNat_Int] at hmk
        rw [← hn] at HB ⊢
        clear hc0 hl0 hmid hm hn hfil hS qM
        go_wp2_with fail
        go_loopg [2, 3] fin.length (fun g fv bv wq => fv = .slice fa n fcap ∧ Hid (∃ pre st, fin = pre ++ st ∧ g = st.length ∧ BMid Mb M ⟨R, F, S, D, l, p, cap, eof, full⟩ w3.heap.size wr.heap.size (.slice fa n fcap) L w bv pre st wq))
        case atStart => exact ⟨rfl, [], fin, rfl, rfl, HB.out⟩
        case round =>
          obtain ⟨rfl, hrel⟩ := hrel
          obtain ⟨pre, st, hfin, hg, hb⟩ := hrel.out
          have HB2 := hidF (hb.alloc (.cells (Lib.byteCells (nulls 512)).toArray 5))
          obtain ⟨wo, hwo⟩ : ∃ wo, wo = wr.alloc (.cells (Lib.byteCells (nulls 512)).toArray 5) := ⟨_, rfl⟩
          obtain ⟨ab, nb, cb, rfl⟩ := hb.own.form3
          have hob : Ob wo wr.heap.size 5 (Lib.byteCells (nulls 512)) := by rw [hwo]; exact heap_alloc_new wr _
          have hG : wr.heap.size ∉ (BR.mk R F S D l p cap eof full).all := fun hx => by have := hb.lo.1 _ hx; have := hb.lo.2; have := hb.sz; omega
          rw [← hwo] at HB2
          have hrd := hidF (read_any ⟨R, F, S, D, l, p, cap, eof, full⟩ st wr.heap.size wo HB2.out.bq hob hG)
          have qB := HB2.out.ob.cell 1 _ rfl
          have Hpre := hidF (And.intro hfin hg)
          have HBs := hidF (And.intro hb.sz (And.intro hb.lo hb.fl))
          have HBo := hidF (fun g hg => (World.ownsRow.lt hb.own g hg).2)
          have HkB := hidF (Nat.le_trans hb.lw.2.2.1 hb.sz)
          have Hwo := hidF hwo
          clear hrel hfin hg hb hob hG hwo
          go_upto_region 19 with fail
          rw [← Hwo.out]
          have hmeth := fun a W => method_br a W
          have HGn := hidF (show wo.heap.size = wr.heap.size + 1 from by rw [Hwo.out]; simp)
          go_wp2_with fail
          refine hrd.out.mono ?_
          rintro e w6 hro
          have hlen2 : pre.length + st.length ≤ 1000000000 := by
            have h1 := Hln.out.1
            have h2 := Hl.out
            have h3 := congrArg List.length Hpre.out.1
            rw [List.length_append] at h3
            omega
          have hGM : wr.heap.size ≠ Mb := by have h1 := Hmb.out; have h2 := HBs.out.1; have h3 := HBs.out.2.1.2; omega
          have hGb : (Value.slice ab nb cb).ownBlock ≠ some wr.heap.size := fun e => by have := HBo.out _ e; omega
          have hGf : (Value.slice fa n fcap).ownBlock ≠ some wr.heap.size := fun e => by have h1 := HBs.out.2.2 _ e; have h2 := HBs.out.1; omega
          have hrG : w3.heap.size < wr.heap.size := by have h1 := HBs.out.2.1.2; have h2 := HBs.out.1; omega
          rcases hro with ⟨hst, rfl, hq6, k6⟩ | ⟨m, hm0, hml, hm5, rfl, hq6, k6, hob6⟩
          · have HB6 := hidF (HB2.out.read hq6 (k6.mono (fun x hx => by simp [hx])) hrG hGM hGb hGf HkB.out)
            have hO := hidF HB6.out.own
            have HSz := hidF HB6.out.sz
            have Hst := hidF hst
            have hlen3 := hidF (show pre.length + 0 ≤ 100000000000 from by omega)
            have hc := hidF (show ∀ j c, ([] : List UInt8)[j]? = some c → w6.cell? ((⟨wr.heap.size, 0, none⟩ : Addr).add j) = some (.int .u8 (c.toNat : Int)) from fun j c hj => by simp at hj)
            unfold eofV
            clear hrd hq6 k6 hGM hGb hGf hrG hlen2 qB hmk hmeth hst
            go_wp2_with (refine wpList_append_at rfl _ _ rfl _ (.slice ab nb cb) pre [] _ 0 _ w6 rfl hO.out rfl rfl hc.out hlen3.out HSz.out ?_; intro v' w' ho' hg' hwh)
            have HB7 := hidF (HB6.out.app hg'.out ho' Hmb.out)
            have HF := hidF (show FieldsOut l w (.returned (.tuple #[.slice fa n fcap, v', .bool true])) w' from
              ⟨HB7.out.k, .inr ⟨_, _, L, fs, k, fin, rfl, Hfr.out.1, Hfr.out.2, HB7.out.fo.base (Nat.le_trans K3.out.size (Nat.le_succ _)), by
                have h1 := ho'.base HB7.out.lw.2.2.1
                rw [Hpre.out.1, Hst.out]
                exact h1, Hsf.out.1, Hsf.out.2⟩⟩)
            go_ret3
            exact HF.out
          · have HB6 := hidF (HB2.out.read hq6 k6 hrG hGM hGb hGf HkB.out)
            have hnb : nb = pre.length := by
              obtain ⟨x, y, h⟩ := HB6.out.own.slice
              injection h
            have hO := hidF HB6.out.own
            have hc := hidF (nulls_cell hob6 hml hm5)
            have htl := hidF (show (st.take m).length = m from by rw [List.length_take]; omega)
            have hlen3 := hidF (show pre.length + m ≤ 100000000000 from by omega)
            have HSz := hidF HB6.out.sz
            have Hm0 := hidF hm0
            have Hml := hidF hml
            clear hrd hq6 k6 hob6 hml hGM hGb hGf hrG hnb hlen2 qB hmk hmeth hm0
            go_wp2_with (refine wpList_append_at rfl _ _ rfl _ (.slice ab nb cb) pre (st.take m) _ m _ w6 rfl hO.out rfl htl.out hc.out hlen3.out HSz.out ?_; intro v' w' ho' hg' hwh)
            have HB7 := hidF (HB6.out.app hg'.out ho' Hmb.out)
            go_roundg (st.drop m).length
            case measure => have h1 := Hm0.out; have h2 := Hml.out; have h3 := Hpre.out.2; rw [List.length_drop]; omega
            case rel =>
              refine ⟨rfl, pre ++ st.take m, st.drop m, ?_, rfl, HB7.out⟩
              rw [List.append_assoc, List.take_append_drop]
              exact Hpre.out.1
      · intro x c kl y ps w5 cnt5 hkey hlk hv hat5 hrg5 hlt5 hgr5 hsz5 hen5
        obtain ⟨rfl, hxs, hcr⟩ := entry_of Hval.out.2.1 Hval.out.2.2.1 hkey hv hat5
        obtain ⟨ca, cc, rfl⟩ := rowForm hcr
        obtain ⟨L, hm⟩ := hmid.out
        obtain ⟨a2, cap2, rfl⟩ := hm.own.form
        have HM := hidF hm
        have Hcr := hidF hcr
        have Hx := hidF (And.intro hlk hxs)
        have Hrg5 := hidF (And.intro hrg5 (And.intro hlt5 (And.intro hgr5 hsz5)))
        have Hrg3 := hidF hrg3
        have Hms := hidF (show cnt5 < gk from hlt5)
        obtain ⟨n, hn⟩ : ∃ n, n = L.length := ⟨_, rfl⟩
        rw [← hn]
        have Hn := hidF hn
        have hnl : n ≤ 1000000000 := by rw [hn]; have h1 := hm.le; have h2 := Hln.out.1; have h3 := Hl.out; omega
        obtain ⟨vs, hvs⟩ : ∃ vs, vs = (filK fs x).map (fun p => p.2) := ⟨_, rfl⟩
        obtain ⟨q, hq⟩ : ∃ q, q = (valsOf fs x).length := ⟨_, rfl⟩
        rw [← hq] at hen5 ⊢
        have Hvs := hidF (And.intro hvs hq)
        clear hkey hlk hv hat5 hrg5 hlt5 hgr5 hsz5 hcr hxs hmid hm hrg3 hn hvs hq
        go_upto_block 2 with fail
        have HO5 := hidF (show OwnF 55 (w3.heap.size + 1) (.slice a2 n cap2) L w5 from by
          have h1 := HM.out.own
          rw [← Hn.out] at h1
          exact h1.kept Hrg5.out.2.2.1 (by
            cases a2 with
            | none => exact .inl rfl
            | some ad => right; intro e; have := (h1.lo _ rfl).1; injection e with e; omega))
        go_cut [9] (fun iv wc => ∃ i : Nat, iv = .int .i64 i ∧ w5 = wc ∧ Hid (PlaceK L x i))
        case first =>
          go_wp2_with fail
          go_loop [9] (fun iv => ∃ i : Nat, i ≤ n ∧ iv = .int .i64 i ∧ Hid (∀ p ∈ L.drop i, gtK p.1 x = true)) (fun iv => (intOf iv).toNat)
          case atStart =>
            exact ⟨n, Nat.le_refl _, rfl, by rw [Hn.out, List.drop_length]; intro p hp; cases hp⟩
          case round =>
            obtain ⟨i, hin, rfl, hgt⟩ := hrel
            by_cases hi0 : i = 0
            · subst hi0
              have HP := hidF (show PlaceK L x 0 from ⟨Nat.zero_le _, hgt.out, fun p hp => by simp at hp⟩)
              go_wp2_with fail
              go_meet
              exact ⟨0, rfl, rfl, HP⟩
            · obtain ⟨i, rfl⟩ : ∃ j, i = j + 1 := ⟨i - 1, by omega⟩
              have hiL : i < L.length := by rw [← Hn.out]; omega
              obtain ⟨pq, hpq⟩ : ∃ pq, pq = L[i] := ⟨_, rfl⟩
              have hpe : L[i]? = some pq := by rw [hpq, List.getElem?_eq_getElem]
              have hrow := HO5.out.row
              rcases hrow with ⟨_, h0⟩ | ⟨g, cap3, h0, hg1, hg2, hg3, hg4⟩
              · rw [h0] at hiL; simp at hiL
              · injection h0 with h1 h2 h3
                subst h1; subst h3
                have qk := HO5.out.cells (i * 2) _ (fcells_get L i pq hpe).1
                have Hpe := hidF hpe
                have HiL := hidF hiL
                have Hin := hidF hin
                have Hgt := hidF hgt
                clear hpq hpe h2 hg1 hg2 hg3 hg4 hiL hi0 hgt
                have Hsp := hidF (fun (b : Bool) (h : (!Op.bytesLess pq.1.toList x.toList && !pq.1.toList == x.toList) = b) => show gtK pq.1 x = b from by unfold gtK; rw [Bool.not_or]; exact h)
                go_wp2_with fail
                · have hx : (!Op.bytesLess pq.1.toList x.toList) = true ∧ (!pq.1.toList == x.toList) = true := by assumption
                  have hg := Hsp.out true (by rw [hx.1, hx.2]; rfl)
                  have HP := hidF (show ∀ p ∈ L.drop i, gtK p.1 x = true from fun p hp => by
                    rw [List.drop_eq_getElem_cons HiL.out] at hp
                    rcases List.mem_cons.1 hp with rfl | hp
                    · have h2 := Hpe.out
                      rw [List.getElem?_eq_getElem HiL.out] at h2
                      rw [Option.some.inj h2]
                      exact hg
                    · exact Hgt.out p hp)
                  have hin2 : i ≤ n := by have := Hin.out; omega
                  clear hx
                  go_round
                  case rel => exact ⟨i, hin2, by simp, HP⟩
                  case measure => simp [intOf]
                · have hx : (!Op.bytesLess pq.1.toList x.toList) = false ∨ (!pq.1.toList == x.toList) = false := by assumption
                  have hg := Hsp.out false (by
                    rcases hx with hx | hx
                    · rw [hx]; rfl
                    · rw [hx, Bool.and_false])
                  have HP := hidF (show PlaceK L x (i + 1) from ⟨HiL.out, Hgt.out, fun p hp => by
                    obtain ⟨j, hj, rfl⟩ := List.mem_take_iff_getElem.1 hp
                    by_cases hji : j = i
                    · subst hji
                      have h2 := Hpe.out
                      rw [List.getElem?_eq_getElem HiL.out] at h2
                      rw [Option.some.inj h2]
                      exact hg
                    · have h2 := Hpe.out
                      have hs := HM.out.srt
                      rw [List.getElem?_eq_getElem HiL.out] at h2
                      have h3 := List.pairwise_iff_getElem.1 hs j i (by omega) HiL.out (by omega)
                      rw [Option.some.inj h2] at h3
                      exact gtK_trans h3 hg⟩)
                  clear hx
                  go_meet
                  exact ⟨i + 1, by simp, rfl, HP⟩
        case rest =>
          obtain ⟨i, rfl, rfl, hP⟩ := hcut
          have hin : i ≤ n := by rw [Hn.out]; exact hP.out.1
          go_upto_region 10 with fail
          go_cut [10] (fun tv wd => Hid (OwnF 55 (w3.heap.size + 1) tv (L.drop i) wd ∧ w5.grownBy wd none ∧ (tv.ownBlock = none ∨ ∃ gt, tv.ownBlock = some gt ∧ w5.heap.size ≤ gt)))
          case first =>
            rcases HO5.out.row with ⟨h0, hL0⟩ | ⟨g, cap3, h0, hg1, hg2, hg3, hg4⟩
            · injection h0 with h1 h2 h3
              subst h1; subst h2; subst h3
              obtain rfl : i = 0 := by omega
              go_wp2_with fail
              go_meet
              exact ⟨by rw [List.drop_zero, hL0]; exact OwnF.nil _ _ _, ⟨rfl, rfl, rfl, Nat.le_refl _, fun _ _ _ => rfl⟩, .inl rfl⟩
            · injection h0 with h1 h2 h3
              subst h1; subst h3
              have Hnil := hidF (OwnF.nil 55 (w3.heap.size + 1) w5)
              have Hsz := hidF (show w3.heap.size + 1 ≤ w5.heap.size from by rw [Hrg5.out.2.2.2]; exact HM.out.sz)
              have hnL : n = L.length := Hn.out
              clear h2
              by_cases hci : cap2 = i
              · subst hci
                have Hlen := hidF (show (L.drop cap2).length = n - cap2 from by rw [List.length_drop, hnL])
                have Hcel := hidF (show ∀ (ad : Addr) j u, (fcells (L.drop cap2))[j]? = some u → w5.cell? (ad.add j) = some u from by
                  intro ad j u hj
                  rw [List.drop_of_length_le (by omega)] at hj
                  simp [fcells] at hj)
                clear hnL hg3
                go_wp2_with (refine wpList_append_f ftI rfl _ _ rfl (w3.heap.size + 1) (.slice none 0 0) [] (L.drop cap2) _ _ _ _ rfl Hnil.out rfl Hlen.out (Hcel.out _) (by simp only [List.length_nil]; omega) Hsz.out ?_; intro tv wd ho' hg' hwh)
                have HF := hidF (show OwnF 55 (w3.heap.size + 1) tv (L.drop cap2) wd ∧ w5.grownBy wd none ∧ (tv.ownBlock = none ∨ ∃ gt, tv.ownBlock = some gt ∧ w5.heap.size ≤ gt) from ⟨ho'.out, hg'.out, by
                  rcases hwh.out with h1 | h1
                  · exact .inl h1
                  · exact .inr ⟨_, h1, Nat.le_refl _⟩⟩)
                go_meet
                exact HF
              · have Hlen := hidF (show (L.drop i).length = n - i from by rw [List.length_drop, hnL])
                have Hcel := hidF (HO5.out.cellsFrom i)
                clear hnL hg3
                go_wp2_with (refine wpList_append_f ftI rfl _ _ rfl (w3.heap.size + 1) (.slice none 0 0) [] (L.drop i) _ _ _ _ rfl Hnil.out rfl Hlen.out Hcel.out (by simp only [List.length_nil]; omega) Hsz.out ?_; intro tv wd ho' hg' hwh)
                have HF := hidF (show OwnF 55 (w3.heap.size + 1) tv (L.drop i) wd ∧ w5.grownBy wd none ∧ (tv.ownBlock = none ∨ ∃ gt, tv.ownBlock = some gt ∧ w5.heap.size ≤ gt) from ⟨ho'.out, hg'.out, by
                  rcases hwh.out with h1 | h1
                  · exact .inl h1
                  · exact .inr ⟨_, h1, Nat.le_refl _⟩⟩)
                go_meet
                exact HF
          case rest =>
            obtain ⟨ho6, hg6, ht6⟩ := hcut.out
            obtain ⟨at6, ct6, rfl⟩ := ho6.form
            have hnt : (L.drop i).length = n - i := by rw [List.length_drop, ← Hn.out]
            rw [hnt] at ho6 ht6 ⊢
            have HO6 := hidF ho6
            have HG6 := hidF hg6
            have HT6 := hidF ht6
            have HP := hidF hP
            have HO5b := hidF (HO5.out.kept hg6 (by
              cases a2 with
              | none => exact .inl rfl
              | some ad => right; intro e; cases e))
            have hcap2 : n ≤ cap2 := by
              rcases HO5.out.row with ⟨h0, hL0⟩ | ⟨g, cap3, h0, _, _, hg3, _⟩
              · injection h0 with _ h2 h3; omega
              · injection h0 with _ h2 h3; omega
            clear hcut ho6 hg6 ht6 hnt hP
            go_wp2_with fail
            have HV := hidF (show VMid M fs.length D0 (fun z => left z && !z.sameKey (litK x)) cnt5 (.slice at6 (n - i) ct6) (L.drop i) w3 (.slice a2 i cap2) (L.take i) wc from by
              have h1 := HM.out
              have h2 := Hrg5.out
              refine ⟨h2.1.kept HG6.out (by simp) (by simp), HO5b.out.shrink i HP.out.1, HO6.out, ?_, ?_, ?_, Hown.out.lt⟩
              · intro g hg e
                rcases HT6.out with h3 | ⟨gt, h3, h4⟩
                · rw [h3] at e; cases e
                · rw [h3] at e
                  have h5 := (HO5.out.lo g (by rw [← hg]; exact ownBlock_len _ _ _ _)).2
                  injection e with e
                  omega
              · have k1 : Below w3.heap.size wr w5 := ⟨h2.2.2.1.os, h2.2.2.1.tape, h2.2.2.1.output, h2.2.2.1.size, fun k hk => h2.2.2.1.block k (by have := h1.bel.size; omega) (fun e => by injection e with e; omega)⟩
                have k2 : Below w3.heap.size w5 wc := ⟨HG6.out.os, HG6.out.tape, HG6.out.output, HG6.out.size, fun k hk => HG6.out.block k (by have := h1.bel.size; have := h2.2.2.2; omega) (by simp)⟩
                exact (h1.bel.trans k1).trans k2
              · have := HG6.out.size; have := h1.sz; have := h2.2.2.2; omega)
            go_loopg [2, 61] q (fun g fv jv wd => ∃ j : Nat, j ≤ q ∧ jv = .int .i64 j ∧ g = q - j ∧ Hid (VMid M fs.length D0 (fun z => left z && !z.sameKey (litK x)) cnt5 (.slice at6 (n - i) ct6) (L.drop i) w3 fv (L.take i ++ (vs.take j).map (fun s => (x, s))) wd))
            case atStart =>
              exact ⟨0, Nat.zero_le _, rfl, rfl, by rw [List.take_zero, List.map_nil, List.append_nil]; exact HV.out⟩
            case round =>
              obtain ⟨j, hjq, rfl, hg, hv⟩ := hrel
              have hvl : vs.length = q := by rw [Hvs.out.2, valsOf_vals, List.length_map, ← Hvs.out.1]
              obtain ⟨af, capf, rfl⟩ := hv.out.own.form
              have hql : q ≤ 1000000000 := by
                rw [Hvs.out.2]
                have h1 := valsOf_length fs x
                have h2 := Hln.out.1
                have h3 := Hl.out
                omega
              have hal : (L.take i ++ (vs.take j).map (fun s => (x, s))).length = i + j := by
                rw [List.length_append, List.length_take, List.length_map, List.length_take, hvl]
                have := Hn.out
                omega
              have HV := hidF hv.out
              rw [hal] at HV ⊢
              have Hal := hidF hal
              have Hvl := hidF hvl
              have Hg := hidF hg
              clear hvl hal hv hg
              by_cases hjq2 : j = q
              · subst hjq2
                have hvj : vs.take j = vs := List.take_of_length_le (by rw [Hvl.out]; exact Nat.le_refl _)
                rw [hvj] at HV
                have hLn : L.length = n := Hn.out.symm
                have HSz := hidF HV.out.sz
                have HFin := hidF (show ∀ v' w', VMid M fs.length D0 (fun z => left z && !z.sameKey (litK x)) cnt5 (.slice at6 (n - i) ct6) (L.drop i) w3 v' (insK L i x vs) w' → w'.ranges Tryd.prog 9 rawR M w3.heap.size fs.length D0 (fun z => left z && !z.sameKey (litK x)) cnt5 ∧ FMid w3.heap.size fs (fun z => left z && !z.sameKey (litK x)) (insK L i x vs) v' w3 w' from fun v' w' h =>
                  ⟨h.rg, HM.out.step Hx.out.1 (by rw [Hvs.out.1]; exact filK_pairs fs x) HP.out h.own h.bel h.sz⟩)
                have hins : (L.take i ++ vs.map (fun s => (x, s))) ++ L.drop i = insK L i x vs := by unfold insK; rw [List.append_assoc]
                have Hins := hidF hins
                clear hvj hins
                rcases HV.out.tl.row with ⟨h0, hT0⟩ | ⟨gt, capt, h0, hg1, hg2, hg3, hg4⟩
                · injection h0 with h1 h2 h3
                  subst h1; subst h3
                  rw [h2] at HV HFin ⊢
                  have hO := hidF HV.out.own
                  have HT0 := hidF hT0
                  clear hT0
                  go_wp2_with (refine wpList_append_f0 ftI rfl _ _ rfl (w3.heap.size + 1) (.slice af (i + j) capf) _ wr rfl hO.out rfl ?_)
                  have HF := hidF (HFin.out _ _ (by rw [← Hins.out, HT0.out, List.append_nil]; rw [HT0.out] at HV; exact HV.out))
                  go_roundg cnt5
                  case measure => exact Hms.out
                  case rel => exact ⟨_, HF.out.1, _, HF.out.2⟩
                · injection h0 with h1 h2 h3
                  subst h1; subst h3
                  have hO := hidF HV.out.own
                  have hc := hidF (HV.out.tl.cellsFrom 0)
                  have hdl : (L.drop i).length = n - i := h2.symm
                  have Hdl := hidF hdl
                  have Hlen := hidF (show (L.take i ++ vs.map (fun s => (x, s))).length + (n - i) ≤ 4000000000 from by
                    rw [List.length_append, List.length_take, List.length_map, Hvl.out]
                    omega)
                  clear hg1 hg2 hg3 hg4 hLn h2 hdl
                  go_wp2_with (refine wpList_append_f ftI rfl _ _ rfl (w3.heap.size + 1) (.slice af (i + j) capf) _ (L.drop i) _ (n - i) _ wr rfl hO.out rfl Hdl.out hc.out Hlen.out HSz.out ?_; intro v' w' ho' hg' hwh)
                  have HF := hidF (HFin.out v' w' (by rw [← Hins.out]; exact HV.out.app wr ⟨rfl, rfl, rfl, Nat.le_refl _, fun _ _ _ => rfl⟩ hg'.out ho'.out hwh.out))
                  go_roundg cnt5
                  case measure => exact Hms.out
                  case rel => exact ⟨_, HF.out.1, _, HF.out.2⟩
              · have hjl : j < q := by omega
                obtain ⟨sv, hsv⟩ : ∃ sv, vs[j]? = some sv := ⟨_, List.getElem?_eq_getElem (by rw [Hvl.out]; exact hjl)⟩
                obtain ⟨g, rfl, qv⟩ := HV.out.vals Hcr.out j (.string sv) (by rw [valsOf_vals, ← Hvs.out.1, List.getElem?_map, hsv]; rfl)
                have hnx : vs.take (j + 1) = vs.take j ++ [sv] := by rw [List.take_add_one, hsv]; rfl
                have Hnx := hidF hnx
                have kA := World.grownBy_alloc wr (.cells #[.string x, .string sv] 55) none
                have hO := hidF (HV.out.own.kept kA (by
                  cases af with
                  | none => exact .inl rfl
                  | some ad => right; intro e; cases e))
                have hc := hidF (show ∀ j u, (fcells [(x, sv)])[j]? = some u → (wr.alloc (.cells #[.string x, .string sv] 55)).cell? ((⟨wr.heap.size, 0, none⟩ : Addr).add j) = some u from World.news_of_block (heap_alloc_new wr _))
                have HSz := hidF (show w3.heap.size + 1 ≤ (wr.alloc (.cells #[.string x, .string sv] 55)).heap.size from Nat.le_trans HV.out.sz kA.size)
                have HK := hidF kA
                have Hlen := hidF (show (L.take i ++ (vs.take j).map (fun s => (x, s))).length + 1 ≤ 4000000000 from by rw [Hal.out]; omega)
                clear hjq2 hsv hnx kA
                go_wp2_with (refine wpList_append_f ftI rfl _ _ rfl (w3.heap.size + 1) (.slice af (i + j) capf) _ [(x, sv)] _ 1 _ _ rfl hO.out rfl rfl hc.out Hlen.out HSz.out ?_; intro v' w' ho' hg' hwh)
                have HF := hidF (HV.out.app _ HK.out hg'.out ho'.out hwh.out)
                go_roundg (q - (j + 1))
                case measure => have := Hg.out; omega
                case rel =>
                  refine ⟨j + 1, by omega, by simp, rfl, ?_⟩
                  rw [Hnx.out, List.map_append, ← List.append_assoc]
                  exact HF.out
end Go.Proofs.YtddnjdapdcopgaaDoor
