/- Groups of digits, plainly: one, two, the last. -/
import Derived.Test.YtbpoecfbcmdeeaaDoorQuantAny
namespace Go.Proofs.YtbpoecfbcmdeeaaDoor
open Go.RowKit

theorem one_group (t l : List UInt8) (h : unbL t = some l) (hlen : 8 ≤ t.length) : ∃ c0 c1 c2 c3 a0 a1 a2 a3 l3, t[0]? = some c0 ∧ t[1]? = some c1 ∧ t[2]? = some c2 ∧ t[3]? = some c3 ∧
    b64V c0 = some a0 ∧ b64V c1 = some a1 ∧ b64V c2 = some a2 ∧ b64V c3 = some a3 ∧ unbL (t.drop 4) = some l3 ∧ l = three (num4 a0 a1 a2 a3) ++ l3 := by
  obtain ⟨c0, c1, c2, c3, r, q, l2, rfl, hq, hr, rfl⟩ := unbL_step t l h (by intro e; rw [e] at hlen; simp at hlen)
  have hre : r.isEmpty = false := by
    cases r with
    | nil => simp at hlen
    | cons x y => rfl
  rw [hre] at hq
  obtain ⟨a0, a1, a2, a3, h0, h1, h2, h3, rfl⟩ := quadL_mid _ _ _ _ _ hq
  exact ⟨c0, c1, c2, c3, a0, a1, a2, a3, l2, rfl, rfl, rfl, rfl, h0, h1, h2, h3, hr, rfl⟩

theorem last_group (t l : List UInt8) (h : unbL t = some l) (hlen : t.length = 4) : ∃ c0 c1 c2 c3, t[0]? = some c0 ∧ t[1]? = some c1 ∧ t[2]? = some c2 ∧ t[3]? = some c3 ∧ quadL c0 c1 c2 c3 true = some l := by
  obtain ⟨c0, c1, c2, c3, r, q, l2, rfl, hq, hr, rfl⟩ := unbL_step t l h (by intro e; rw [e] at hlen; simp at hlen)
  have hre : r = [] := by
    cases r with
    | nil => rfl
    | cons x y => simp at hlen
  subst hre
  have : l2 = [] := by rw [unbL] at hr; exact (Option.some.inj hr).symm
  subst this
  exact ⟨c0, c1, c2, c3, rfl, rfl, rfl, rfl, by rw [List.append_nil]; exact hq⟩

theorem grown_cell {w w' : World} {g : Nat} (h : w.grownBy w' (some g)) {k j : Nat} {v : Value} (hk : k ≠ g) (hc : w.cell? ⟨k, j, none⟩ = some v) : w'.cell? ⟨k, j, none⟩ = some v :=
  (World.cell?_of_block (h.block k (block_lt_of_cell hc) (fun e => hk (Option.some.inj e)))).trans hc
theorem grown_enc {w w' : World} {g b : Nat} (h : w.grownBy w' (some g)) (hk : b ≠ g) (he : EncAt w b) : EncAt w' b :=
  (h.block b he.lt (fun e => hk (Option.some.inj e))).trans he

/-- Where Decode stands: i groups are done, out has come of them. -/
structure At64 (w wr : World) (g D i : Nat) (s l out : List UInt8) : Prop where
  row : ∃ L, Row wr g L ∧ L.length = D ∧ L.take (3 * i) = out
  rest : ∃ l2, unbL (s.drop (4 * i)) = some l2 ∧ l = out ++ l2
  len : out.length = 3 * i
  grown : w.grownBy wr (some g)

theorem take_splice (L bs cs : List UInt8) (q : Nat) (h : q + (bs.length + cs.length) ≤ L.length) : (splice L q (bs ++ cs)).take (q + bs.length) = L.take q ++ bs := by
  unfold splice
  rw [List.take_append, List.length_take, Nat.min_eq_left (by omega), List.take_of_length_le (by rw [List.length_take]; omega), Nat.add_sub_cancel_left, List.append_assoc, List.take_left]

/-- Some groups more. -/
theorem At64.more {w wr wr2 : World} {g D i j : Nat} {s l out x pad l3 : List UInt8} (h : At64 w wr g D i s l out) (hp : Puts wr wr2 g (3 * i) (x ++ pad)) (hx : x.length = 3 * j) (hD : 3 * i + (x.length + pad.length) ≤ D)
    (hr : unbL (s.drop (4 * (i + j))) = some l3) (hl : l = out ++ (x ++ l3)) : At64 w wr2 g D (i + j) s l (out ++ x) := by
  obtain ⟨L, hL, hLl, hLt⟩ := h.row
  refine ⟨⟨splice L (3 * i) (x ++ pad), hp.1 L hL (by rw [List.length_append]; omega), by rw [length_splice _ _ _ (by rw [List.length_append]; omega)]; exact hLl, ?_⟩, ⟨l3, hr, by rw [hl, List.append_assoc]⟩, by rw [List.length_append, h.len, hx]; omega, grown_trans h.grown hp.2⟩
  rw [show 3 * (i + j) = 3 * i + x.length by omega, take_splice _ _ _ _ (by omega), hLt]

theorem append_inj_left' {out l2 a b : List UInt8} (h : out ++ l2 = out ++ (a ++ b)) : l2 = a ++ b := List.append_cancel_left h
theorem put64_row (g q n cap : Nat) (X Y : Nat) (V : Int) (w : World) (L : List UInt8) (hL : Row w g L) (hl : q + 8 ≤ L.length) (hn : 8 ≤ n) (hX : X < 16777216) (hY : Y < 16777216) (hV : V = (((X * 16777216 + Y) * 65536 : Nat) : Int)) :
    Calls Tryd.prog 76 #[.slice (some ⟨g, q, none⟩) n cap, .int .u64 V] w fun e w' => e = .returned (.tuple #[]) ∧ Puts w w' g q ((three X ++ three Y) ++ [0, 0]) := by
  have c (j : Nat) (hj : j < 8) := hL.cell (List.getElem?_eq_getElem (l := L) (i := q + j) (by omega))
  have f (j : Nat) (hj : j < 8) := hL.free (List.getElem?_eq_getElem (l := L) (i := q + j) (by omega))
  refine (put64_any g q n cap V _ _ _ _ _ _ _ _ w hn (by omega) (c 0 (by omega)) (c 1 (by omega)) (c 2 (by omega)) (c 3 (by omega)) (c 4 (by omega)) (c 5 (by omega)) (c 6 (by omega)) (c 7 (by omega)) (f 0 (by omega)) (f 1 (by omega)) (f 2 (by omega)) (f 3 (by omega)) (f 4 (by omega)) (f 5 (by omega)) (f 6 (by omega)) (f 7 (by omega))).mono ?_
  rintro e w' ⟨rfl, rfl⟩
  refine ⟨rfl, ?_⟩
  have h := put64_bytes X Y hX hY
  simp only at h
  rw [← hV] at h
  rw [h, List.append_assoc]
  exact Puts.cells _ _ _
theorem put32_row (g q n cap : Nat) (X : Nat) (V : Int) (w : World) (L : List UInt8) (hL : Row w g L) (hl : q + 4 ≤ L.length) (hn : 4 ≤ n) (hX : X < 16777216) (hV : V = ((X * 256 : Nat) : Int)) :
    Calls Tryd.prog 79 #[.slice (some ⟨g, q, none⟩) n cap, .int .u32 V] w fun e w' => e = .returned (.tuple #[]) ∧ Puts w w' g q (three X ++ [0]) := by
  have c (j : Nat) (hj : j < 4) := hL.cell (List.getElem?_eq_getElem (l := L) (i := q + j) (by omega))
  have f (j : Nat) (hj : j < 4) := hL.free (List.getElem?_eq_getElem (l := L) (i := q + j) (by omega))
  refine (put32_any g q n cap V _ _ _ _ w hn (by omega) (c 0 (by omega)) (c 1 (by omega)) (c 2 (by omega)) (c 3 (by omega)) (f 0 (by omega)) (f 1 (by omega)) (f 2 (by omega)) (f 3 (by omega))).mono ?_
  rintro e w' ⟨rfl, rfl⟩
  refine ⟨rfl, ?_⟩
  have h := put32_bytes X hX
  simp only at h
  rw [← hV] at h
  rw [h]
  exact Puts.cells _ _ _
theorem Puts.drewN {w w' : World} {g o n : Nat} {bs : List UInt8} (h : Puts (w.drewN n) w' g o bs) : Puts w w' g o bs :=
  ⟨fun L hL hl => h.1 L (hL.same rfl) hl, ⟨h.2.os, h.2.tape, h.2.output, h.2.size, h.2.block⟩⟩
end Go.Proofs.YtbpoecfbcmdeeaaDoor
