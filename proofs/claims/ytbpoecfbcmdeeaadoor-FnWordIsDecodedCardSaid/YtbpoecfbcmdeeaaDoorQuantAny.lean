/- base64's decodeQuantum at the last four digits, in one; the text of digits, group by group. -/
import Derived.Test.YtbpoecfbcmdeeaaDoorQuantB
namespace Go.Proofs.YtbpoecfbcmdeeaaDoor
open Go.RowKit

theorem three_len (x : Nat) : (three x).length = 3 := rfl

/-- Four digits, plainly: which of the three forms. -/
theorem quadL_forms (c0 c1 c2 c3 : UInt8) (last : Bool) (q : List UInt8) (h : quadL c0 c1 c2 c3 last = some q) :
    ∃ a0 a1, b64V c0 = some a0 ∧ b64V c1 = some a1 ∧
      ((∃ a2 a3, b64V c2 = some a2 ∧ b64V c3 = some a3 ∧ q = three (num4 a0 a1 a2 a3)) ∨
       (∃ a2, b64V c2 = some a2 ∧ c3 = 61 ∧ last = true ∧ q = (three (num4 a0 a1 a2 0)).take 2) ∨
       (c2 = 61 ∧ c3 = 61 ∧ last = true ∧ q = (three (num4 a0 a1 0 0)).take 1)) := by
  unfold quadL at h
  cases h0 : b64V c0 with
  | none => rw [h0] at h; cases h
  | some a0 =>
    cases h1 : b64V c1 with
    | none => rw [h0, h1] at h; cases h
    | some a1 =>
      rw [h0, h1] at h
      refine ⟨a0, a1, rfl, rfl, ?_⟩
      cases h2 : b64V c2 with
      | none =>
        rw [h2] at h
        simp only at h
        split at h
        · rename_i hc
          exact .inr (.inr ⟨hc.1, hc.2.1, hc.2.2.1, by rw [← Option.some.inj h]; unfold num4; rw [Nat.zero_mul, Nat.add_zero]⟩)
        · cases h
      | some a2 =>
        rw [h2] at h
        cases h3 : b64V c3 with
        | none =>
          rw [h3] at h
          simp only at h
          split at h
          · rename_i hc
            exact .inr (.inl ⟨a2, rfl, hc.1, hc.2.1, by rw [← Option.some.inj h]; unfold num4; rw [Nat.add_zero]⟩)
          · cases h
        | some a3 =>
          rw [h3] at h
          exact .inl ⟨a2, a3, rfl, rfl, by rw [← Option.some.inj h]; unfold num4; rfl⟩

theorem quadL_mid (c0 c1 c2 c3 : UInt8) (q : List UInt8) (h : quadL c0 c1 c2 c3 false = some q) :
    ∃ a0 a1 a2 a3, b64V c0 = some a0 ∧ b64V c1 = some a1 ∧ b64V c2 = some a2 ∧ b64V c3 = some a3 ∧ q = three (num4 a0 a1 a2 a3) := by
  obtain ⟨a0, a1, h0, h1, ⟨a2, a3, h2, h3, hq⟩ | ⟨_, _, _, hl, _⟩ | ⟨_, _, hl, _⟩⟩ := quadL_forms _ _ _ _ _ _ h
  · exact ⟨a0, a1, a2, a3, h0, h1, h2, h3, hq⟩
  · cases hl
  · cases hl

theorem unbL_step (t l : List UInt8) (h : unbL t = some l) (hne : t ≠ []) : ∃ c0 c1 c2 c3 r q l2, t = c0 :: c1 :: c2 :: c3 :: r ∧ quadL c0 c1 c2 c3 r.isEmpty = some q ∧ unbL r = some l2 ∧ l = q ++ l2 := by
  match t, h, hne with
  | [], _, hne => exact absurd rfl hne
  | [_], h, _ => simp [unbL] at h
  | [_, _], h, _ => simp [unbL] at h
  | [_, _, _], h, _ => simp [unbL] at h
  | c0 :: c1 :: c2 :: c3 :: r, h, _ =>
    rw [unbL] at h
    cases hq : quadL c0 c1 c2 c3 r.isEmpty with
    | none => rw [hq] at h; cases h
    | some q =>
      rw [hq] at h
      cases hr : unbL r with
      | none => rw [hr] at h; cases h
      | some l2 =>
        rw [hr] at h
        exact ⟨c0, c1, c2, c3, r, q, l2, rfl, hq, hr, (Option.some.inj h).symm⟩

theorem unbL_four : ∀ (n : Nat) (t l : List UInt8), t.length ≤ n → unbL t = some l → ∃ G, t.length = 4 * G
  | 0, t, l, hn, _ => ⟨0, by omega⟩
  | n + 1, t, l, hn, h => by
    by_cases hne : t = []
    · exact ⟨0, by rw [hne]; rfl⟩
    · obtain ⟨c0, c1, c2, c3, r, q, l2, rfl, _, hr, _⟩ := unbL_step t l h hne
      obtain ⟨G, hG⟩ := unbL_four n r l2 (by simp at hn; omega) hr
      exact ⟨G + 1, by simp; omega⟩

theorem quant_any (b g o dn dcap sg p scap : Nat) (c0 c1 c2 c3 : UInt8) (q : List UInt8) (w : World) (he : EncAt w b) (hgb : g ≠ b) (h : quadL c0 c1 c2 c3 true = some q) (hp : p ≤ 1000000) (hdn : 3 ≤ dn)
    (s0 : w.cell? ⟨sg, p, none⟩ = some (.int .u8 (c0.toNat : Int))) (s1 : w.cell? ⟨sg, p + 1, none⟩ = some (.int .u8 (c1.toNat : Int))) (s2 : w.cell? ⟨sg, p + 2, none⟩ = some (.int .u8 (c2.toNat : Int))) (s3 : w.cell? ⟨sg, p + 3, none⟩ = some (.int .u8 (c3.toNat : Int)))
    (L : List UInt8) (hL : Row w g L) (hl : o + 3 ≤ L.length) :
    Calls Tryd.prog 77 #[.pointer (some ⟨b, 0, none⟩), .slice (some ⟨g, o, none⟩) dn dcap, .slice (some ⟨sg, 0, none⟩) (p + 4) scap, .int .i64 p] w fun e w' => e = .returned (.tuple #[.int .i64 ((p + 4 : Nat) : Int), .int .i64 (q.length : Nat), .nilIface]) ∧ Puts w w' g o q := by
  have g0 := List.getElem?_eq_getElem (l := L) (i := o) (by omega)
  have g1 := List.getElem?_eq_getElem (l := L) (i := o + 1) (by omega)
  have g2 := List.getElem?_eq_getElem (l := L) (i := o + 2) (by omega)
  obtain ⟨a0, a1, h0, h1, ⟨a2, a3, h2, h3, rfl⟩ | ⟨a2, h2, rfl, _, rfl⟩ | ⟨rfl, rfl, _, rfl⟩⟩ := quadL_forms _ _ _ _ _ _ h
  · exact quantA b g o dn dcap sg p scap c0 c1 c2 c3 a0 a1 a2 a3 _ _ _ w he hgb h0 h1 h2 h3 hp hdn s0 s1 s2 s3 (hL.cell g0) (hL.cell g1) (hL.cell g2) (hL.free g0) (hL.free g1) (hL.free g2)
  · exact quantB b g o dn dcap sg p scap c0 c1 c2 a0 a1 a2 _ _ w he hgb h0 h1 h2 hp (by omega) s0 s1 s2 s3 (hL.cell g0) (hL.cell g1) (hL.free g0) (hL.free g1)
  · exact quantC b g o dn dcap sg p scap c0 c1 a0 a1 _ w he hgb h0 h1 hp (by omega) s0 s1 s2 s3 (hL.cell g0) (hL.free g0)

theorem put64_bytes (X Y : Nat) (_hX : X < 16777216) (_hY : Y < 16777216) :
    let V : Int := ((((X * 16777216 + Y) * 65536 : Nat)) : Int)
    [Value.int .u8 (V / 72057594037927936 % 256), .int .u8 (V / 281474976710656 % 256), .int .u8 (V / 1099511627776 % 256), .int .u8 (V / 4294967296 % 256), .int .u8 (V / 16777216 % 256), .int .u8 (V / 65536 % 256), .int .u8 (V / 256 % 256), .int .u8 (V % 256)]
      = Lib.byteCells (three X ++ (three Y ++ [0, 0])) := by
  intro V
  have e0 : V / 72057594037927936 % 256 = ((UInt8.ofNat (X / 65536)).toNat : Int) := by rw [UInt8.toNat_ofNat']; omega
  have e1 : V / 281474976710656 % 256 = ((UInt8.ofNat (X / 256 % 256)).toNat : Int) := by rw [UInt8.toNat_ofNat']; omega
  have e2 : V / 1099511627776 % 256 = ((UInt8.ofNat (X % 256)).toNat : Int) := by rw [UInt8.toNat_ofNat']; omega
  have e3 : V / 4294967296 % 256 = ((UInt8.ofNat (Y / 65536)).toNat : Int) := by rw [UInt8.toNat_ofNat']; omega
  have e4 : V / 16777216 % 256 = ((UInt8.ofNat (Y / 256 % 256)).toNat : Int) := by rw [UInt8.toNat_ofNat']; omega
  have e5 : V / 65536 % 256 = ((UInt8.ofNat (Y % 256)).toNat : Int) := by rw [UInt8.toNat_ofNat']; omega
  have e6 : V / 256 % 256 = ((0 : UInt8).toNat : Int) := by show _ = (0 : Int); omega
  have e7 : V % 256 = ((0 : UInt8).toNat : Int) := by show _ = (0 : Int); omega
  rw [e0, e1, e2, e3, e4, e5, e6, e7]
  rfl
theorem put32_bytes (X : Nat) (_hX : X < 16777216) :
    let V : Int := (((X * 256 : Nat)) : Int)
    [Value.int .u8 (V / 16777216 % 256), .int .u8 (V / 65536 % 256), .int .u8 (V / 256 % 256), .int .u8 (V % 256)]
      = Lib.byteCells (three X ++ [0]) := by
  intro V
  have e3 : V / 16777216 % 256 = ((UInt8.ofNat (X / 65536)).toNat : Int) := by rw [UInt8.toNat_ofNat']; omega
  have e4 : V / 65536 % 256 = ((UInt8.ofNat (X / 256 % 256)).toNat : Int) := by rw [UInt8.toNat_ofNat']; omega
  have e5 : V / 256 % 256 = ((UInt8.ofNat (X % 256)).toNat : Int) := by rw [UInt8.toNat_ofNat']; omega
  have e6 : V % 256 = ((0 : UInt8).toNat : Int) := by show _ = (0 : Int); omega
  rw [e3, e4, e5, e6]
  rfl
theorem num4_lt (a b c d : Nat) (ha : a < 64) (hb : b < 64) (hc : c < 64) (hd : d < 64) : num4 a b c d < 16777216 := by unfold num4; omega
end Go.Proofs.YtbpoecfbcmdeeaaDoor
