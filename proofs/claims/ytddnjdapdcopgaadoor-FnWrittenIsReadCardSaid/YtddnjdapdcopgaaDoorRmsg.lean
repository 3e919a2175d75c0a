/- ReadMessage: the walk. -/
import Derived.Test.YtddnjdapdcopgaaDoorRm
namespace Go.Proofs.YtddnjdapdcopgaaDoor
open Go.RowKit
open Go.Maps (Keyed)
open Go.ChangeMaps Go.Maps Go.WideMaps

/-- bytes' reader at its beginning, over data. -/
structure RdAt (S D : Nat) (data : List UInt8) (p : Option Addr) (scap : Nat) (eof full : Addr) (w : World) : Prop where
  sr : ∃ pv, Ob w S 74 (rdS (.slice p data.length scap) 0 pv)
  dat : ∀ j x, data[j]? = some x → w.cell? ⟨D, j, none⟩ = some (.int .u8 (x.toNat : Int))
  hp : data ≠ [] → p = some ⟨D, 0, none⟩
  cap : data.length ≤ scap
  small : data.length ≤ 1000000000
  ds : D ≠ S
  dl : D < w.heap.size
  eo : w.cell? ⟨0, 0, none⟩ = some (eofV eof)
  fu : w.cell? ⟨2, 0, none⟩ = some (eofV full)
  eb : ∃ C t, w.heap[eof.block]? = some (.cells C t (0, 0))
  fb : ∃ C t, w.heap[full.block]? = some (.cells C t (0, 0))
  ne : eof ≠ full
  gs : 0 ≠ S ∧ 2 ≠ S ∧ eof.block ≠ S ∧ full.block ≠ S

theorem RdAt.only {S D : Nat} {data : List UInt8} {p : Option Addr} {scap : Nat} {eof full : Addr} {w w' : World} (h : RdAt S D data p scap eof full w) (k : Only [] w w') : RdAt S D data p scap eof full w' := by
  obtain ⟨pv, hs⟩ := h.sr
  exact ⟨⟨pv, hs.only k (by simp)⟩, fun j x hj => k.cell (by simp) (h.dat j x hj), h.hp, h.cap, h.small, h.ds, Nat.lt_of_lt_of_le h.dl k.size, k.cell (by simp) h.eo, k.cell (by simp) h.fu, k.blk (by simp) h.eb, k.blk (by simp) h.fb, h.ne, h.gs⟩

/-- bufio's new reader over it. -/
theorem RdAt.buf {S D R F : Nat} {data : List UInt8} {p : Option Addr} {scap : Nat} {eof full : Addr} {w0 w : World} (h0 : RdAt S D data p scap eof full w0) (k : Only [] w0 w) (hR : w0.heap.size ≤ R) (hF : w0.heap.size ≤ F) (hRF : R ≠ F)
    (hf : Ob w F 5 (Lib.byteCells (nulls 4096))) (hr : Ob w R 85 [.slice (some ⟨F, 0, none⟩) 4096 4096, .iface 46 (.pointer (some ⟨S, 0, none⟩)), .int .i64 0, .int .i64 0, .nilIface, .int .i64 (-1), .int .i64 (-1)]) :
    BufQ ⟨R, F, S, D, data, p, scap, eof, full⟩ data w := by
  have h := h0.only k
  have g1 : 0 < w0.heap.size := block_lt_of_cell h0.eo
  have g2 : 2 < w0.heap.size := block_lt_of_cell h0.fu
  obtain ⟨C1, t1, e1⟩ := h0.eb
  obtain ⟨C2, t2, e2⟩ := h0.fb
  have g3 := (Array.getElem?_eq_some_iff.1 e1).1
  have g4 := (Array.getElem?_eq_some_iff.1 e2).1
  obtain ⟨pv, hs⟩ := h0.sr
  have g5 := hs.lt
  have g6 := h0.dl
  refine ⟨nulls 4096, 0, 0, 0, -1, -1, ⟨⟨h.hp, h.cap, h.small, hRF, by show R ≠ S; omega, by show F ≠ S; omega, by show D ≠ R; omega, by show D ≠ F; omega, h.ds, ⟨by show 0 ≠ R; omega, by show 0 ≠ F; omega, h.gs.1⟩, ⟨by show 2 ≠ R; omega, by show 2 ≠ F; omega, h.gs.2.1⟩, h.ne, ⟨by show eof.block ≠ R; omega, by show eof.block ≠ F; omega, h.gs.2.2.1⟩, ⟨by show full.block ≠ R; omega, by show full.block ≠ F; omega, h.gs.2.2.2⟩⟩,
    hr, hf, h.sr, h.dat, nulls_length _, Nat.le_refl _, by omega, Nat.zero_le _, h.eo, h.fu, h.eb, h.fb, h.dl⟩, ?_⟩
  simp [bufQ]

theorem neq_err {W : World} (x a : Addr) (hx : ∃ C t, W.heap[x.block]? = some (.cells C t (0, 0))) (ha : ∃ C t, W.heap[a.block]? = some (.cells C t (0, 0))) :
    (binOp .neq 43 (.iface 89 (.pointer (some x))) (.iface 89 (.pointer (some a)))).run Tryd.prog W = .ok (.bool (!decide (x = a))) W := by
  have h := eql_err x a hx ha
  unfold binOp at h ⊢
  simp only [Sem.run_bind] at h ⊢
  generalize (Op.equal 43 (Value.iface 89 (Value.pointer (some x))) (Value.iface 89 (Value.pointer (some a)))).run Tryd.prog W = r at h ⊢
  cases r with
  | ok b w' =>
    simp only [Result.andThen_ok, Sem.run_pure] at h ⊢
    injection h with h1 h2
    injection h1 with h1
    rw [h1, h2]
  | _ => simp [Result.andThen] at h

/-- What ReadMessage leaves. -/
def RmOut (S D : Nat) (data : List UInt8) (p : Option Addr) (scap : Nat) (eof full : Addr) (w : World) (e : Ending) (w' : World) : Prop := Only [S] w w' ∧
  ((∃ er fs k fin, e = .returned (.tuple #[.pointer none, eofV er]) ∧ FirstR data fs k fin ∧ (k = 2 ∨ k = 1)) ∨
   (∃ Mb M R F ob fs k fin, e = .returned (.tuple #[.pointer (some ⟨Mb, 0, none⟩), .nilIface]) ∧ Ob w' Mb 54 [.map (some M), .iface 66 (.pointer (some ⟨R, 0, none⟩))] ∧ w.heap.size ≤ M ∧ HdrX w' M fs.length fs ob ∧
      w.heap.size ≤ R ∧ w.heap.size ≤ F ∧ R < M ∧ F < M ∧ BufQ ⟨R, F, S, D, data, p, scap, eof, full⟩ fin w' ∧ FirstR data fs k fin ∧ fs.length + fin.length ≤ data.length ∧ (k = 0 ∨ k = 1)))

set_option maxHeartbeats 8000000 in
set_option maxRecDepth 100000 in
theorem readMessage_any (S D : Nat) (data : List UInt8) (p : Option Addr) (scap : Nat) (eof full : Addr) (w : World) (h : RdAt S D data p scap eof full w) :
    Calls Tryd.prog 15 #[.iface 46 (.pointer (some ⟨S, 0, none⟩))] w (RmOut S D data p scap eof full w) := by
  have H := hidF h
  have hn := hidF (newReader_any S w)
  clear h
  go_enter Tryd.func15, Tryd.ntmps15
  go_wp2_with fail
  refine hn.out.mono ?_
  rintro e w1 ⟨R, F, rfl, hR, hF, hRF, k1, hf, hr⟩
  have HQ1 := hidF (H.out.buf k1 hR hF hRF hf hr)
  have HR := hidF (And.intro hR (And.intro hF hRF))
  have Hk1 := hidF k1
  have htp := hidF (tpNewReader_any R w1)
  clear hn hR hF hRF hf hr k1
  go_wp2_with fail
  refine htp.out.mono ?_
  rintro e w2 ⟨T, rfl, hT, k2, hob⟩
  have HQ2 := hidF (HQ1.out.only k2 (by simp))
  have Hk2 := hidF (Hk1.out.trans k2)
  have Hob := hidF hob
  have HTl := hidF hT
  have hrh := hidF (readHeader_any T ⟨R, F, S, D, data, p, scap, eof, full⟩ data w2 hob (fun hx => by have := HQ1.out.lts T hx; omega) HQ2.out H.out.small)
  clear htp hT k2 hob HQ1
  go_wp2_with fail
  refine hrh.out.mono ?_
  rintro e w3 ⟨M, fs, bv, l, fin, k, er, rfl, hM, hTA, hX, hq, hO, hln, her, hfr⟩
  have HX := hidF hX
  have Hq := hidF hq
  have Hln := hidF hln
  have Hfr := hidF hfr
  have HM := hidF hM
  have hO3 : Only [S] w w3 := Hk2.out.mono (by simp) |>.fresh hO (fun x hx => by
    have h1 := HR.out
    have h2 := HTl.out
    have h3 := Hk1.out.size
    simp only [BR.own, List.mem_cons, List.not_mem_nil, or_false] at hx
    rcases hx with rfl | rfl | rfl | rfl
    · left; omega
    · left; exact h1.1
    · left; exact h1.2.1
    · right; simp)
  have HO := hidF hO3
  have qT := hTA.ob.cell 0 _ rfl
  obtain ⟨bfq, rq, wq, iq, lbq, lsq, hBq, _⟩ := hq
  have qE : w3.cell? ⟨0, 0, none⟩ = some (eofV eof) := hBq.eo
  have HB := hidF hBq.eb
  unfold eofV at qE
  have hsz : R < M ∧ F < M := by
    have h1 := HQ2.out.lts R (by simp [BR.all])
    have h2 := HQ2.out.lts F (by simp [BR.all])
    exact ⟨by omega, by omega⟩
  have hwM : w.heap.size ≤ M := Nat.le_trans Hk2.out.size hM
  have HM2 := hidF hwM
  have Hsz := hidF hsz
  clear hrh hX hln hfr hM hO hO3 hTA hBq hsz hwM
  have hgood : ∀ k, FirstR data fs k fin → (k = 0 ∨ k = 1) → RmOut S D data p scap eof full w (.returned (.tuple #[.pointer (some ⟨w3.heap.size, 0, none⟩), .nilIface])) (w3.alloc (.cells #[.map (some M), .iface 66 (.pointer (some ⟨R, 0, none⟩))] 54)) := fun k hf hk => by
    have k4 : Only [] w3 (w3.alloc (.cells #[.map (some M), .iface 66 (.pointer (some ⟨R, 0, none⟩))] 54)) := Only.of_below ((Below.refl _ _).alloc (Nat.le_refl _) _)
    exact ⟨HO.out.trans (k4.mono (by simp)), .inr ⟨_, M, R, F, bv.ownBlock, fs, k, fin, rfl, heap_alloc_new w3 _, HM2.out, HX.out.below k4, HR.out.1, HR.out.2.1, Hsz.out.1, Hsz.out.2, Hq.out.only k4 (by simp), hf, Hln.out, hk⟩⟩
  have Hgood := hidF hgood
  clear hgood
  rcases her with ⟨rfl, rfl⟩ | ⟨rfl, rfl⟩ | ⟨rfl, a, rfl, ha, hab⟩
  · have HF := hidF (Hgood.out 0 Hfr.out (.inl rfl))
    go_wp2_with fail
    go_ret2
    exact HF.out
  · have hcmp := neq_err (W := w3) eof eof HB.out HB.out
    rw [decide_eq_true rfl, Bool.not_true] at hcmp
    obtain ⟨D0, val, hown, _⟩ := HX.out
    have hlen := fun ty => hown.len Tryd.underlying49 ty
    have HF := hidF (Hgood.out 1 Hfr.out (.inr rfl))
    have HE := hidF (show RmOut S D data p scap eof full w (.returned (.tuple #[.pointer none, eofV eof])) w3 from ⟨HO.out, .inl ⟨_, fs, 1, fin, rfl, Hfr.out, .inr rfl⟩⟩)
    unfold eofV at HE ⊢
    clear hown
    by_cases h0 : Maps.size D0 = 0
    · rw [h0] at hlen
      go_wp2_with fail
      go_ret2
      exact HE.out
    · have e0 : ((Maps.size D0 : Int) == 0) = false := beq_eq_false_iff_ne.2 (by omega)
      go_wp2_with fail
      go_ret2
      exact HF.out
  · have hne : a ≠ eof := fun e => by
      obtain ⟨C, t, h⟩ := hab
      have h2 := HQ2.out
      obtain ⟨_, _, _, _, _, _, hb2, _⟩ := h2
      obtain ⟨C2, t2, h3⟩ := hb2.eb
      have h4 := (Array.getElem?_eq_some_iff.1 h3).1
      rw [e] at ha
      exact absurd ha (Nat.not_le.2 h4)
    have hcmp := neq_err (W := w3) a eof hab HB.out
    rw [decide_eq_false hne, Bool.not_false] at hcmp
    have HE := hidF (show RmOut S D data p scap eof full w (.returned (.tuple #[.pointer none, eofV a])) w3 from ⟨HO.out, .inl ⟨_, fs, 2, fin, rfl, Hfr.out, .inl rfl⟩⟩)
    unfold eofV at HE ⊢
    clear hab hne ha
    go_wp2_with fail
    go_ret2
    exact HE.out
end Go.Proofs.YtddnjdapdcopgaaDoor
