/- bufio's Read into a new row of 512 bytes, whatever is in the buffer. -/
import Derived.Test.YtddnjdapdcopgaaDoorRead2
namespace Go.Proofs.YtddnjdapdcopgaaDoor
open Go.RowKit

/-- What Read leaves: the end, or n bytes. -/
def ReadOut (c : BR) (st : List UInt8) (G : Nat) (w : World) (e : Ending) (w' : World) : Prop :=
  (st = [] ∧ e = .returned (.tuple #[.int .i64 0, eofV c.eof]) ∧ BufQ c [] w' ∧ Only c.own w w') ∨
  (∃ n, 0 < n ∧ n ≤ st.length ∧ n ≤ 512 ∧ e = .returned (.tuple #[.int .i64 (n : Int), .nilIface]) ∧ BufQ c (st.drop n) w' ∧ Only (G :: c.own) w w' ∧ Ob w' G 5 (Lib.byteCells (splice (nulls 512) 0 (st.take n))))

theorem read_any (c : BR) (st : List UInt8) (G : Nat) (w : World) (h : BufQ c st w) (hg : Ob w G 5 (Lib.byteCells (nulls 512))) (hG : G ∉ c.all) :
    Calls Tryd.prog 71 #[.pointer (some ⟨c.R, 0, none⟩), .slice (some ⟨G, 0, none⟩) 512 512] w (ReadOut c st G w) := by
  obtain ⟨bf, r, wi, i, lb, ls, hB, rfl⟩ := h
  have hrw := hB.rw
  have hwb := hB.wb
  by_cases hr : r < wi
  · refine (read_have c bf r wi i lb ls G w hB hr hg hG).mono ?_
    rintro e w' ⟨n, lb', hn, rfl, hB', hO, hob⟩
    have hbl := bufQ_len (r := r) hB.len hwb
    have hnb : 1 ≤ n ∧ n ≤ 512 ∧ n ≤ wi - r := by
      rw [hn]
      refine ⟨?_, Nat.min_le_right _ _, Nat.min_le_left _ _⟩
      show 1 ≤ min _ _
      omega
    have ht : (bufQ bf r wi ++ c.data.drop i).take n = (bufQ bf r wi).take n := List.take_append_of_le_length (by omega)
    have hd : (bufQ bf r wi ++ c.data.drop i).drop n = bufQ bf (r + n) wi ++ c.data.drop i := by
      rw [List.drop_append_of_le_length (by omega)]
      congr 1
      unfold bufQ
      rw [List.drop_take, List.drop_drop]
      congr 1
      omega
    refine .inr ⟨n, by omega, by rw [List.length_append]; omega, hnb.2.1, rfl, ?_, hO, by rw [ht]; exact hob⟩
    rw [hd]
    exact ⟨bf, r + n, wi, i, _, _, hB', rfl⟩
  · obtain rfl : r = wi := by omega
    have h0 : bufQ bf r r = [] := by unfold bufQ; simp
    rw [h0, List.nil_append]
    exact (read_empty c bf r i lb ls G w hB hg hG)
end Go.Proofs.YtddnjdapdcopgaaDoor
