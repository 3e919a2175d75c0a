/- textproto's trim, skipSpace, isASCIILetter, noValidation: the walks. -/
import Derived.Test.YtddnjdapdcopgaaDoorRls
namespace Go.Proofs.YtddnjdapdcopgaaDoor
open Go.RowKit

theorem isBl_no {c : UInt8} (h : isBl c = false) : ((c.toNat : Int) == 32) = false ∧ ((c.toNat : Int) == 9) = false ∧ ((c.toNat : Int) != 32) = true ∧ ((c.toNat : Int) != 9) = true := by
  have h1 : c ≠ 32 ∧ c ≠ 9 := by simpa [isBl] using h
  have a : (c.toNat : Int) ≠ 32 := fun e => h1.1 (UInt8.toNat_inj.1 (by have : (32 : UInt8).toNat = 32 := rfl; omega))
  have b : (c.toNat : Int) ≠ 9 := fun e => h1.2 (UInt8.toNat_inj.1 (by have : (9 : UInt8).toNat = 9 := rfl; omega))
  exact ⟨beq_eq_false_iff_ne.2 a, beq_eq_false_iff_ne.2 b, bne_iff_ne.2 a, bne_iff_ne.2 b⟩
theorem isBl_yes {c : UInt8} (h : isBl c = true) : c = 32 ∨ c = 9 := by simpa [isBl] using h

theorem noValidation_any (v : Value) (w : World) :
    Calls Tryd.prog 36 #[v] w fun e w' => e = .returned .nilIface ∧ w = w' := by
  go_enter Tryd.func36, Tryd.ntmps36
  go_wp2_with fail
  go_ret
  exact ⟨rfl, rfl⟩

/-- What isASCIILetter says of a byte: never yes to a blank. -/
def LetR (c : UInt8) (w : World) (e : Ending) (w' : World) : Prop := ∃ b, e = .returned (.bool b) ∧ (b = true → isBl c = false) ∧ w = w'
theorem isLetter_any (c : UInt8) (w : World) :
    Calls Tryd.prog 44 #[.int .u8 (c.toNat : Int)] w (LetR c w) := by
  by_cases h32 : c = 32
  · subst h32
    go_enter Tryd.func44, Tryd.ntmps44
    rw [show (((32 : UInt8).toNat : Nat) : Int) = 32 from rfl]
    go_wp2_with fail
    go_ret
    exact ⟨false, rfl, (fun h => by cases h), rfl⟩
  · by_cases h9 : c = 9
    · subst h9
      go_enter Tryd.func44, Tryd.ntmps44
      rw [show (((9 : UInt8).toNat : Nat) : Int) = 9 from rfl]
      go_wp2_with fail
      go_ret
      exact ⟨false, rfl, (fun h => by cases h), rfl⟩
    · have hb : isBl c = false := by simp [isBl, h32, h9]
      have Hb := hidF hb
      clear h32 h9 hb
      obtain ⟨x, hx⟩ : ∃ x : Int, x = bits BinOp.or .u8 (c.toNat : Int) 32 := ⟨_, rfl⟩
      have hx2 := hx.symm
      by_cases h97 : 97 ≤ x
      · by_cases h122 : x ≤ 122
        · clear hx
          go_enter Tryd.func44, Tryd.ntmps44
          go_wp2_with fail
          go_ret
          exact ⟨_, rfl, fun _ => Hb.out, rfl⟩
        · clear hx
          go_enter Tryd.func44, Tryd.ntmps44
          go_wp2_with fail
          go_ret
          exact ⟨_, rfl, fun _ => Hb.out, rfl⟩
      · clear hx
        go_enter Tryd.func44, Tryd.ntmps44
        go_wp2_with fail
        go_ret
        exact ⟨_, rfl, fun _ => Hb.out, rfl⟩

/-- What skipSpace does. -/
def SkipOut (c : BR) (st : List UInt8) (w : World) (e : Ending) (w' : World) : Prop := Only c.own w w' ∧
  ∃ bl t, st = bl ++ t ∧ bl.all isBl = true ∧ (∀ x, t.head? = some x → isBl x = false) ∧ e = .returned (.int .i64 (bl.length : Int)) ∧ BufQ c t w'
def SkRel (c : BR) (st : List UInt8) (w : World) (g m : Nat) (wr : World) : Prop := ∃ bl t, st = bl ++ t ∧ bl.all isBl = true ∧ m = bl.length ∧ g = t.length ∧ Only c.own w wr ∧ BufQ c t wr

set_option maxHeartbeats 4000000 in
set_option maxRecDepth 100000 in
theorem skipSpace_any (T : Nat) (c : BR) (bv : Value) (st : List UInt8) (w : World) (hT : Ob w T 72 (tpS c bv)) (hTn : T ∉ c.own) (h : BufQ c st w) (hst : st.length ≤ 1000000000) :
    Calls Tryd.prog 46 #[.pointer (some ⟨T, 0, none⟩)] w (SkipOut c st w) := by
  have HT := hidF hT
  have HTn := hidF hTn
  have HQ := hidF h
  have Hst := hidF hst
  clear hT hTn h hst
  go_enter Tryd.func46, Tryd.ntmps46
  go_wp2_with fail
  go_loopg [3, 4, 5] st.length (fun g nv cv ev wr => ∃ m : Nat, nv = .int .i64 m ∧ Hid (SkRel c st w g m wr))
  case atStart => exact ⟨0, rfl, hidF ⟨[], st, rfl, rfl, rfl, rfl, Only.refl _ _, HQ.out⟩⟩
  case round =>
    obtain ⟨m, rfl, hR⟩ := hrel
    obtain ⟨bl, t, hsb, hall, hm, hg, hO, hq⟩ := hR.out
    have qT := (HT.out.only hO HTn.out).cell 0 _ rfl
    have hrb := hidF (ReadByte_any c t wr hq)
    have hml : m ≤ 1000000000 := by rw [hm]; have := congrArg List.length hsb; rw [List.length_append] at this; have := Hst.out; omega
    have m1 : IntKind.i64.wrap ((m : Int) + 1) = ((m + 1 : Nat) : Int) := by rw [IntWalk.i64_in _ (by omega)]; omega
    have HA := hidF (And.intro hsb (And.intro hall (And.intro hm (And.intro hg hO))))
    clear hR hsb hall hm hg hO hq hml
    go_wp2_with fail
    refine hrb.out.mono ?_
    rintro e w1 ⟨k1, hcase⟩
    have K1 := hidF k1
    clear hrb k1 qT
    cases t with
    | nil =>
      obtain ⟨rfl, hq1⟩ := hcase
      have HF := hidF (show SkipOut c st w (.returned (.int .i64 (m : Int))) w1 from ⟨HA.out.2.2.2.2.trans K1.out, bl, [], HA.out.1, HA.out.2.1, (fun x hx => by cases hx), by rw [HA.out.2.2.1], hq1⟩)
      unfold eofV
      clear hq1
      go_wp2_with fail
      go_ret
      exact HF.out
    | cons x t =>
      obtain ⟨rfl, hu⟩ := hcase
      have Hu := hidF hu
      clear hu
      by_cases hx : isBl x = true
      · have hrel2 := hidF (show SkRel c st w t.length (m + 1) w1 from ⟨bl ++ [x], t, by rw [HA.out.1]; simp, by rw [List.all_append, HA.out.2.1]; simp [hx], by rw [HA.out.2.2.1]; simp, rfl, HA.out.2.2.2.2.trans K1.out, Hu.out.q⟩)
        have hlt : t.length < gk := by have := HA.out.2.2.2.1; rw [List.length_cons] at this; omega
        rcases isBl_yes hx with rfl | rfl
        · rw [show (((32 : UInt8).toNat : Nat) : Int) = 32 from rfl]
          clear hx
          go_wp2_with fail
          go_roundg t.length
          case measure => exact hlt
          case rel => exact ⟨m + 1, rfl, hrel2⟩
        · rw [show (((9 : UInt8).toNat : Nat) : Int) = 9 from rfl]
          clear hx
          go_wp2_with fail
          go_roundg t.length
          case measure => exact hlt
          case rel => exact ⟨m + 1, rfl, hrel2⟩
      · have hxf : isBl x = false := by simpa using hx
        obtain ⟨_, _, b1, b2⟩ := isBl_no hxf
        have qT := (HT.out.only (HA.out.2.2.2.2.trans K1.out) HTn.out).cell 0 _ rfl
        have hub := hidF (UnreadByte_any c x t w1 Hu.out)
        have HX := hidF hxf
        clear hx hxf
        go_wp2_with fail
        refine hub.out.mono ?_
        rintro e w2 ⟨rfl, k2, hq2⟩
        have HF := hidF (show SkipOut c st w (.returned (.int .i64 (m : Int))) w2 from ⟨(HA.out.2.2.2.2.trans K1.out).trans k2, bl, x :: t, HA.out.1, HA.out.2.1, (fun y hy => by obtain rfl := Option.some.inj hy; exact HX.out), by rw [HA.out.2.2.1], hq2⟩)
        clear k2 hq2 hub qT
        go_wp2_with fail
        go_ret
        exact HF.out
end Go.Proofs.YtddnjdapdcopgaaDoor
