/- laws.fields at two rows of the same fields: the walk. -/
import Derived.Test.YtddnjdapdcopgaaDoorSpecC
namespace Go.Proofs.YtddnjdapdcopgaaDoor
open Go.RowKit

set_option maxHeartbeats 4000000 in
set_option maxRecDepth 100000 in
theorem same_any (B B' : Nat) (v v' : Value) (L : List (ByteArray × ByteArray)) (w : World) (h : OwnF 55 B v L w) (h' : OwnF 39 B' v' L w) (hL : L.length ≤ 1000000000) :
    Calls Tryd.prog 7 #[v, v'] w fun e w' => e = .returned (.bool true) ∧ Only [] w w' := by
  obtain ⟨a, cap, rfl⟩ := h.form
  obtain ⟨a', cap', rfl⟩ := h'.form
  obtain ⟨n, hn⟩ : ∃ n, n = L.length := ⟨_, rfl⟩
  rw [← hn] at h h' hL ⊢
  have Hn := hidF hn
  have H := hidF h
  have H' := hidF h'
  clear hn h h'
  go_enter Tryd.func7, Tryd.ntmps7
  go_wp2_with fail
  go_loopw [13] (fun iv wr => ∃ i : Nat, i ≤ n ∧ iv = .int .i64 i ∧ Hid (Only [] w wr)) (fun iv _ => n - (intOf iv).toNat)
  case atStart => exact ⟨0, Nat.zero_le _, rfl, Only.refl _ _⟩
  case round =>
    obtain ⟨i, hi, rfl, hk⟩ := hrel
    by_cases hin : i = n
    · subst hin
      go_wp2_with fail
      go_ret
      exact ⟨rfl, hk.out⟩
    · have hil : i < n := by omega
      have hiL : i < L.length := by rw [← Hn.out]; exact hil
      obtain ⟨p, hp⟩ : ∃ p, L[i]? = some p := ⟨_, List.getElem?_eq_getElem hiL⟩
      rcases H.out.row with ⟨_, h0⟩ | ⟨g, c1, h0, _⟩
      · rw [h0] at hiL; cases hiL
      · rcases H'.out.row with ⟨_, h2⟩ | ⟨g', c2, h2, _⟩
        · rw [h2] at hiL; cases hiL
        · injection h0 with h3 _ _
          injection h2 with h4 _ _
          subst h3; subst h4
          have q0 := (H.out.only hk.out (by simp)).cells (i * 2) _ (fcells_get L i p hp).1
          have q1 := (H.out.only hk.out (by simp)).cells (i * 2 + 1) _ (fcells_get L i p hp).2
          have r0 := (H'.out.only hk.out (by simp)).cells (i * 2) _ (fcells_get L i p hp).1
          have r1 := (H'.out.only hk.out (by simp)).cells (i * 2 + 1) _ (fcells_get L i p hp).2
          clear hp hiL hin
          go_wp2_with fail
          go_quiet (fail)
          go_wp2_with fail
          go_roundw
          case rel => exact ⟨i + 1, by omega, by simp, hk.out.trans (Only.drewN _ _ _)⟩
          case measure => simp [intOf]; omega
end Go.Proofs.YtddnjdapdcopgaaDoor
