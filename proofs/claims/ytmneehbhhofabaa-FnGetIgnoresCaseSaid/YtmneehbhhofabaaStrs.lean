/- Slices of strings that came in: zzFits1's walk. -/
import Derived.Test.YtmneehbhhofabaaPrs
namespace Go.Proofs.Ytmneehbhhofabaa
open Go.RowKit

/-- A slice of strings that came in reads as the list ss. -/
def StrRow (w : World) (ao : Option Addr) (len cap : Nat) (ss : List ByteArray) : Prop :=
  (cap ≤ 9223372036854775807 ∧ len = 0 ∧ 0 = 0 ∧ ss = []) ∨
  ∃ b off, ao = some ⟨b, off, none⟩ ∧ len ≤ cap ∧ cap ≤ 9223372036854775807 ∧ ss.length = len ∧ (0 < len → b < w.heap.size) ∧ ∀ i s, ss[i]? = some s → w.cell? ⟨b, off + i, none⟩ = some (.string s)

theorem StrRow.length {w : World} {ao : Option Addr} {len cap : Nat} {ss : List ByteArray} (h : StrRow w ao len cap ss) : ss.length = len := by
  rcases h with ⟨_, h1, _, h2⟩ | ⟨_, _, _, _, _, h, _⟩
  · rw [h1, h2]; rfl
  · exact h
theorem StrRow.bound {w : World} {ao : Option Addr} {len cap : Nat} {ss : List ByteArray} (h : StrRow w ao len cap ss) : len ≤ 9223372036854775807 := by
  rcases h with ⟨_, h1, _, h2⟩ | ⟨_, _, _, h1, h2, _⟩ <;> omega
theorem StrRow.below {w w' : World} {ao : Option Addr} {len cap : Nat} {ss : List ByteArray} (h : StrRow w ao len cap ss) (k : Below w.heap.size w w') : StrRow w' ao len cap ss := by
  rcases h with h | ⟨b, off, h1, h2, h3, h4, h5, h6⟩
  · exact .inl h
  · refine .inr ⟨b, off, h1, h2, h3, h4, fun h => Nat.lt_of_lt_of_le (h5 h) k.size, fun i s hi => ?_⟩
    have hlt : i < ss.length := (List.getElem?_eq_some_iff.1 hi).1
    rw [k.cell (p := ⟨b, off + i, none⟩) (h5 (by omega))]
    exact h6 i s hi

def smallB (s : ByteArray) : Bool := decide (s.size ≤ 2147483647)
def fitsL (ss : List ByteArray) : Bool := decide (ss.length ≤ 2147483647) && ss.all smallB

theorem fitsL_get {ss : List ByteArray} (h : fitsL ss = true) : ss.length ≤ 2147483647 ∧ ∀ s ∈ ss, s.size ≤ 2147483647 := by
  unfold fitsL at h
  rw [Bool.and_eq_true, decide_eq_true_eq, List.all_eq_true] at h
  exact ⟨h.1, fun s hs => by simpa [smallB] using h.2 s hs⟩

theorem list_drop_cons {α : Type} (l : List α) (k : Nat) (x : α) (h : l[k]? = some x) : l.drop k = x :: l.drop (k + 1) := by
  rw [List.getElem?_eq_some_iff] at h
  obtain ⟨hk, he⟩ := h
  rw [List.drop_eq_getElem_cons hk, he]

set_option maxHeartbeats 1000000 in
theorem fits_any (ao : Option Addr) (len cap : Nat) (ss : List ByteArray) (w : World) (h : StrRow w ao len cap ss) :
    Calls Try.prog 8 #[.slice ao len cap] w fun e w' => e = .returned (.bool (fitsL ss)) ∧ w = w' := by
  have hbd := h.bound
  have Hlen := hidF h.length
  by_cases hbig : 2147483647 < len
  · have e1 : (2147483647 : Int) < (len : Int) := by omega
    have hres := hidF (show fitsL ss = false by unfold fitsL; rw [decide_eq_false (by rw [Hlen.out]; omega)]; rfl)
    clear h
    go_enter Try.func8, Try.ntmps8
    go_wp2
    go_ret
    exact ⟨by rw [hres.out]; rfl, rfl⟩
  · have e1 : ¬ (2147483647 : Int) < (len : Int) := by omega
    have hres := hidF (show fitsL ss = ss.all smallB by unfold fitsL; rw [decide_eq_true (by rw [Hlen.out]; omega), Bool.true_and])
    go_enter Try.func8, Try.ntmps8
    go_wp2
    go_loop [10] (fun iv => ∃ k : Nat, k ≤ len ∧ iv = .int .i64 k ∧ Hid ((ss.drop k).all smallB = ss.all smallB)) (fun iv => len - (intOf iv).toNat)
    case atStart => exact ⟨0, Nat.zero_le _, rfl, rfl⟩
    case round =>
      obtain ⟨k, hk, rfl, hall⟩ := hrel
      by_cases hkl : k < len
      · rcases h with ⟨_, h1, _⟩ | ⟨b, off, rfl, hlc, hcm, hsl, hbw, hcs⟩
        · omega
        · have hget := List.getElem?_eq_getElem (l := ss) (i := k) (by omega)
          obtain ⟨s, hs⟩ : ∃ s, s = ss[k] := ⟨_, rfl⟩
          rw [← hs] at hget
          have hcell := hcs k s hget
          have hd := hidF (list_drop_cons ss k s hget)
          clear hs hget hcs hbw hsl
          by_cases hsm : 2147483647 < s.size
          · have f1 : (2147483647 : Int) < (s.size : Int) := by omega
            have hno := hidF (show ss.all smallB = false by rw [← hall.out, hd.out, List.all_cons, show smallB s = false from decide_eq_false (by omega), Bool.false_and])
            clear hsm
            go_wp2
            go_ret
            exact ⟨by rw [hres.out, hno.out]; rfl, rfl⟩
          · have f1 : ¬ (2147483647 : Int) < (s.size : Int) := by omega
            have hyes := hidF (show (ss.drop (k + 1)).all smallB = ss.all smallB by rw [← hall.out, hd.out, List.all_cons, show smallB s = true from decide_eq_true (by omega), Bool.true_and])
            clear hsm
            go_wp2
            go_round
            case rel => exact ⟨k + 1, by omega, by go_num, hyes.out⟩
            case measure => simp [intOf]; omega
      · have hyes := hidF (show ss.all smallB = true by rw [← hall.out, List.drop_eq_nil_of_le (by rw [Hlen.out]; omega), List.all_nil])
        clear h
        go_wp2
        go_ret
        exact ⟨by rw [hres.out, hyes.out]; rfl, rfl⟩

end Go.Proofs.Ytmneehbhhofabaa
