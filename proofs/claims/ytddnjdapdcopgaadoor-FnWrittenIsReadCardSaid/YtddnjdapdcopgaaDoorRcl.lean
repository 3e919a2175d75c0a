/- textproto's ReadContinuedLine and ReadLine: the walks. -/
import Derived.Test.YtddnjdapdcopgaaDoorCsl
namespace Go.Proofs.YtddnjdapdcopgaaDoor
open Go.RowKit

theorem SlAt.string {v : Value} {l : List UInt8} {b : Nat} {w : World} (h : SlAt v l b w) : (convert 22 9 v).run Tryd.prog w = .ok (.string (mkB l)) w := by
  obtain ⟨o, cap, rfl, hc, hcel⟩ := h
  exact run_convert_bytes_back w 22 9 5 ⟨b, o, none⟩ cap l Tryd.underlying22 Tryd.underlying5 Tryd.underlying9 (fun j hj => add_cell hcel j _ (List.getElem?_eq_getElem hj))
theorem nil_string (w : World) : (convert 22 9 (.slice none 0 0)).run Tryd.prog w = .ok (.string ByteArray.empty) w :=
  run_convert_bytes_nil w 22 5 Tryd.underlying22 Tryd.underlying5 0 0 9 Tryd.underlying9

/-- What ReadContinuedLine leaves. -/
def RclOut (T B : Nat) (c : BR) (bv0 : Value) (st : List UInt8) (w : World) (e : Ending) (w' : World) : Prop := Csl0 T B c bv0 w w' ∧
  ((∃ fin, e = .returned (.tuple #[.string ByteArray.empty, eofV c.eof]) ∧ BufQ c fin w' ∧ RclR st [] true fin) ∨
   (∃ kv fin, e = .returned (.tuple #[.string (mkB kv), .nilIface]) ∧ BufQ c fin w' ∧ kv.length + fin.length ≤ st.length ∧ RclR st kv false fin))

set_option maxHeartbeats 4000000 in
set_option maxRecDepth 100000 in
theorem rcl_any (T B : Nat) (c : BR) (bv0 : Value) (l0 st : List UInt8) (w : World) (hT : TpAt T B c bv0 l0 w) (h : BufQ c st w) (hst : st.length ≤ 1000000000) (hh : ∀ x, st.head? = some x → isBl x = false) :
    Calls Tryd.prog 27 #[.pointer (some ⟨T, 0, none⟩)] w (RclOut T B c bv0 st w) := by
  have hcs := hidF (csl_any T B c bv0 l0 st w hT h hst hh)
  clear hT h hst hh
  go_enter Tryd.func27, Tryd.ntmps27
  go_wp2_with fail
  refine hcs.out.mono ?_
  rintro e w1 ⟨k0, hcase⟩
  have K0 := hidF k0
  clear hcs k0
  rcases hcase with ⟨fin, rfl, hq, hr⟩ | ⟨v, kv, b, fin, rfl, hsl, hq, hle, hr⟩
  · have HF := hidF (show RclOut T B c bv0 st w (.returned (.tuple #[.string ByteArray.empty, eofV c.eof])) w1 from ⟨K0.out, .inl ⟨fin, rfl, hq, hr⟩⟩)
    have hcv := nil_string w1
    unfold eofV at HF ⊢
    clear hq hr
    go_wp2_with fail
    go_ret2
    exact HF.out
  · have HF := hidF (show RclOut T B c bv0 st w (.returned (.tuple #[.string (mkB kv), .nilIface])) w1 from ⟨K0.out, .inr ⟨kv, fin, rfl, hq, hle, hr⟩⟩)
    have hcv := hsl.string
    obtain ⟨o, cap, rfl, hc, hcel⟩ := hsl
    clear hq hr hc hcel
    go_wp2_with fail
    go_ret2
    exact HF.out

/-- What ReadLine leaves: a text and nil, or the end. -/
def RlOut (c : BR) (st : List UInt8) (w : World) (e : Ending) (w' : World) : Prop := Only c.own w w' ∧ ∃ fin s er, e = .returned (.tuple #[.string s, er]) ∧ BufQ c fin w' ∧ fin.length ≤ st.length ∧ (er = .nilIface ∨ er = eofV c.eof)

set_option maxHeartbeats 4000000 in
set_option maxRecDepth 100000 in
theorem rl_any (T : Nat) (c : BR) (bv : Value) (st : List UInt8) (w : World) (hT : Ob w T 72 (tpS c bv)) (hTn : T ∉ c.own) (h : BufQ c st w) (hst : st.length ≤ 1000000000) :
    Calls Tryd.prog 25 #[.pointer (some ⟨T, 0, none⟩)] w (RlOut c st w) := by
  have hcs := hidF (readLine_none T c bv st w hT hTn h hst)
  clear hT h hst hTn
  go_enter Tryd.func25, Tryd.ntmps25
  go_wp2_with fail
  refine hcs.out.mono ?_
  rintro e w1 ⟨k0, hcase⟩
  have K0 := hidF k0
  clear hcs k0
  rcases hcase with ⟨hb, rfl, hq⟩ | ⟨l, t, v, b, hq, hsl, hbF, rfl, hlr⟩
  · have HF := hidF (show RlOut c st w (.returned (.tuple #[.string ByteArray.empty, eofV c.eof])) w1 from ⟨K0.out, _, _, _, rfl, hq, Nat.zero_le _, .inr rfl⟩)
    have hcv := nil_string w1
    unfold eofV at HF ⊢
    clear hq hb
    go_wp2_with fail
    go_ret2
    exact HF.out
  · have HF := hidF (show RlOut c st w (.returned (.tuple #[.string (mkB l), .nilIface])) w1 from ⟨K0.out, _, _, _, rfl, hq, Nat.le_of_lt hlr.2.2.1, .inl rfl⟩)
    have hcv := hsl.string
    obtain ⟨o, cap, rfl, hc, hcel⟩ := hsl
    clear hq hlr hbF hc hcel
    go_wp2_with fail
    go_ret2
    exact HF.out

end Go.Proofs.YtddnjdapdcopgaaDoor
