/- textproto's trim: the walk. -/
import Derived.Test.YtddnjdapdcopgaaDoorTrim
namespace Go.Proofs.YtddnjdapdcopgaaDoor
open Go.RowKit

def TrimOut (l : List UInt8) (b : Nat) (w : World) (e : Ending) (w' : World) : Prop := ∃ v, e = .returned v ∧ SlAt v (trimB l) b w ∧ w = w'

set_option maxHeartbeats 4000000 in
set_option maxRecDepth 100000 in
theorem trim_any (v : Value) (l : List UInt8) (b : Nat) (w : World) (h : SlAt v l b w) (hl : l.length ≤ 1000000000) :
    Calls Tryd.prog 45 #[v] w (TrimOut l b w) := by
  obtain ⟨o, cap, rfl, hcap, hc⟩ := h
  have HC := hidF hc
  obtain ⟨n, hn⟩ : ∃ n, n = l.length := ⟨_, rfl⟩
  rw [← hn] at hcap hl ⊢
  have HN := hidF hn
  have HLn := hidF hl
  clear hc hn hl
  go_enter Tryd.func45, Tryd.ntmps45
  go_wp2_with fail
  go_loop [3] (fun iv => ∃ i : Nat, i ≤ n ∧ iv = .int .i64 i ∧ Hid ((l.take i).all isBl = true)) (fun iv => n - (intOf iv).toNat)
  case atStart => exact ⟨0, Nat.zero_le _, rfl, hidF rfl⟩
  case round =>
    obtain ⟨i, hi, rfl, hst⟩ := hrel
    have hbn := HLn.out
    by_cases hlt : i < n
    · have hz : (i : Int) < (n : Int) := by omega
      obtain ⟨x, hx⟩ : ∃ x, x = l[i]'(by rw [← HN.out]; exact hlt) := ⟨_, rfl⟩
      have hxi : l[i]? = some x := by rw [hx, List.getElem?_eq_getElem]
      have qx := HC.out i x hxi
      have i1 : IntKind.i64.wrap ((i : Int) + 1) = ((i + 1 : Nat) : Int) := by rw [IntWalk.i64_in _ (by omega)]; omega
      clear hx
      by_cases hb : isBl x = true
      · have hn2 := hidF (show (l.take (i + 1)).all isBl = true by rw [List.take_add_one, hxi, List.all_append, hst.out]; simp [hb])
        clear hst hbn hxi
        rcases isBl_yes hb with rfl | rfl
        · rw [show (((32 : UInt8).toNat : Nat) : Int) = 32 from rfl] at qx
          clear hb
          go_wp2_with fail
          go_round
          case rel => exact ⟨i + 1, by omega, rfl, hn2⟩
          case measure => simp [intOf]; omega
        · rw [show (((9 : UInt8).toNat : Nat) : Int) = 9 from rfl] at qx
          clear hb
          go_wp2_with fail
          go_round
          case rel => exact ⟨i + 1, by omega, rfl, hn2⟩
          case measure => simp [intOf]; omega
      · have hbf : isBl x = false := by simpa using hb
        obtain ⟨b1, b2, _, _⟩ := isBl_no hbf
        have hlt2 := hidF (show ltrim l = l.drop i from ltrim_at l i hst.out (fun c hc => by rw [hxi] at hc; obtain rfl := Option.some.inj hc; exact hbf))
        have c1 : (i : Int) ≤ (n : Int) := by omega
        have c2 : (i : Int) ≤ (cap : Int) := by omega
        have c3 : ¬ cap = i := by omega
        obtain ⟨n2, hn2⟩ : ∃ n2, n2 = n - i := ⟨_, rfl⟩
        obtain ⟨k0, hk0⟩ : ∃ k0, k0 + 1 = n2 := ⟨n2 - 1, by omega⟩
        have c4 : (n2 : Int) - 1 = (k0 : Int) := by omega
        have c5 : IntKind.i64.wrap (k0 : Int) = (k0 : Int) := IntWalk.i64_in _ (by omega)
        have c6 : n - i = n2 := hn2.symm
        have HN2 := hidF (And.intro hn2 hk0)
        clear hst hbn hxi hb hbf hn2 hk0
        go_wp2_with fail
        go_loop [4] (fun nv => ∃ k : Nat, k ≤ n2 ∧ nv = .int .i64 ((k : Int) - 1) ∧ Hid (((l.drop i).drop k).all isBl = true)) (fun nv => (intOf nv + 1).toNat)
        case atStart => exact ⟨n2, Nat.le_refl _, by rw [c4], hidF (by rw [List.drop_of_length_le (by rw [List.length_drop, ← HN.out]; have := HN2.out.1; omega)]; rfl)⟩
        case round =>
          obtain ⟨k, hk, rfl, hst⟩ := hrel
          have hbn := HLn.out
          have hn2 := HN2.out.1
          by_cases hk0 : k = 0
          · subst hk0
            have HF := hidF (show TrimOut l b w (.returned (.slice (some ⟨b, o + i, none⟩) 0 (cap - i))) w from by
              have ht : trimB l = [] := by
                unfold trimB
                rw [hlt2.out, rtrim_at (l.drop i) 0 (Nat.zero_le _) hst.out (fun j c h => by omega)]; rfl
              refine ⟨_, rfl, ?_, rfl⟩
              rw [ht]
              exact ⟨o + i, cap - i, rfl, Nat.zero_le _, fun j x hj => by cases hj⟩)
            clear hst hbn hn2
            go_wp2_with fail
            go_ret
            exact HF.out
          · obtain ⟨j, rfl⟩ : ∃ j, k = j + 1 := ⟨k - 1, by omega⟩
            have d1 : ((j + 1 : Nat) : Int) - 1 = (j : Int) := by omega
            have hjl : i + j < l.length := by rw [← HN.out]; omega
            obtain ⟨y, hy⟩ : ∃ y, y = l[i + j] := ⟨_, rfl⟩
            have hyj : (l.drop i)[j]? = some y := by rw [List.getElem?_drop, hy, List.getElem?_eq_getElem]
            have qy := HC.out (i + j) y (by rw [hy, List.getElem?_eq_getElem])
            rw [← Nat.add_assoc] at qy
            rw [d1]
            have d2 : (j : Int) < (n2 : Int) := by omega
            have d3 : IntKind.i64.wrap ((j : Int) - 1) = (j : Int) - 1 := IntWalk.i64_in _ (by omega)
            have d4 : IntKind.i64.wrap ((j : Int) + 1) = ((j + 1 : Nat) : Int) := by rw [IntWalk.i64_in _ (by omega)]; omega
            have d5 : ((j + 1 : Nat) : Int) ≤ ((cap - i : Nat) : Int) := by omega
            have d6 : (0 : Int) ≤ (j : Int) := by omega
            by_cases hb : isBl y = true
            · have hn3 := hidF (show ((l.drop i).drop j).all isBl = true by
                rw [List.drop_eq_getElem_cons (by rw [List.length_drop]; omega), List.all_cons, hst.out, Bool.and_true]
                rw [List.getElem?_eq_getElem (by rw [List.length_drop]; omega)] at hyj
                rw [Option.some.inj hyj]; exact hb)
              clear hst hbn hn2 hyj hy
              rcases isBl_yes hb with rfl | rfl
              · rw [show (((32 : UInt8).toNat : Nat) : Int) = 32 from rfl] at qy
                clear hb
                go_wp2_with fail
                go_round
                case rel => exact ⟨j, by omega, rfl, hn3⟩
                case measure => simp [intOf]
              · rw [show (((9 : UInt8).toNat : Nat) : Int) = 9 from rfl] at qy
                clear hb
                go_wp2_with fail
                go_round
                case rel => exact ⟨j, by omega, rfl, hn3⟩
                case measure => simp [intOf]
            · have hbf : isBl y = false := by simpa using hb
              obtain ⟨b1, b2, _, _⟩ := isBl_no hbf
              have HF := hidF (show TrimOut l b w (.returned (.slice (some ⟨b, o + i, none⟩) (j + 1) (cap - i))) w from by
                have ht : trimB l = (l.drop i).take (j + 1) := by
                  unfold trimB
                  rw [hlt2.out, rtrim_at (l.drop i) (j + 1) (by rw [List.length_drop, ← HN.out]; omega) hst.out (fun j2 c h hc => by
                    obtain rfl : j = j2 := by omega
                    rw [hyj] at hc; obtain rfl := Option.some.inj hc; exact hbf)]
                have htl : (trimB l).length = j + 1 := by rw [ht, List.length_take, List.length_drop, ← HN.out]; omega
                refine ⟨_, rfl, ⟨o + i, cap - i, by rw [htl], by omega, fun j2 x hj => ?_⟩, rfl⟩
                rw [ht, List.getElem?_take] at hj
                split at hj
                · rw [List.getElem?_drop] at hj
                  rw [Nat.add_assoc]
                  exact HC.out _ _ hj
                · cases hj)
              clear hst hbn hn2 hyj hy hb hbf
              go_wp2_with fail
              go_ret
              exact HF.out
    · obtain rfl : i = n := by omega
      have hz : ¬ (i : Int) < (i : Int) := by omega
      have htr : trimB l = [] := by
        unfold trimB
        rw [ltrim_at l i hst.out (fun c hc => by rw [List.getElem?_eq_none (by rw [← HN.out]; omega)] at hc; cases hc), List.drop_of_length_le (by rw [← HN.out]; omega)]
        rfl
      have Htr := hidF htr
      have c2 : (i : Int) ≤ (cap : Int) := by omega
      clear hst hbn htr
      by_cases hci : cap = i
      · subst hci
        go_wp2_with fail
        refine wp_loop_rounds 1 ?_
        rw [rounds_succ]
        go_wp2_with fail
        go_ret
        refine ⟨_, rfl, ?_, rfl⟩
        rw [Htr.out]
        exact ⟨_, _, by simp; exact ⟨rfl, rfl⟩, Nat.zero_le _, fun j x hj => by cases hj⟩
      · go_wp2_with fail
        refine wp_loop_rounds 1 ?_
        rw [rounds_succ]
        go_wp2_with fail
        go_ret
        refine ⟨_, rfl, ?_, rfl⟩
        rw [Htr.out]
        exact ⟨_, _, by simp; exact ⟨rfl, rfl⟩, Nat.zero_le _, fun j x hj => by cases hj⟩
end Go.Proofs.YtddnjdapdcopgaaDoor
