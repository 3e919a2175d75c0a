/- The walks of consume, consumeComment, skipCFWS: comments are skipped as the plain lists say. -/
import Derived.Test.YtmneehbhhofabaaPrs
namespace Go.Proofs.Ytmneehbhhofabaa
open Go.RowKit

/-- The text without its first byte. -/
def tailB (s : ByteArray) : ByteArray := mkB s.data.toList.tail
theorem from_one (s : ByteArray) : s.extract 1 s.size = tailB s := by rw [from_mkB, tailB, List.drop_one]
theorem tailB_list (s : ByteArray) : (tailB s).data.toList = s.data.toList.tail := mkB_list _
theorem trimB_list (s : ByteArray) : (trimB s).data.toList = trimL s.data.toList := mkB_list _
theorem tailB_size (s : ByteArray) : (tailB s).size = s.size - 1 := by rw [tailB, size_mkB, List.length_tail, Array.length_toList]; rfl

set_option maxHeartbeats 400000 in
theorem consume_yes (b : Nat) (s : ByteArray) (c : Int) (w : World) (hP : PAt b s w) (h0 : 0 < s.size) (hc : ((s[0]'h0).toNat : Int) = c) :
    Calls Try.prog 19 #[.pointer (some ⟨b, 0, none⟩), .int .u8 c] w fun e w' => e = .returned (.bool true) ∧ w.setCell ⟨b, 0, none⟩ (.string (tailB s)) = w' := by
  have hcell := hP.cell
  have hfree := hP.free
  have hne : ((s.size : Int) == 0) = false := beq_eq_false_iff_ne.2 (by omega)
  have hx := hidF (from_one s)
  subst hc
  have hb : ((((s[0]'h0).toNat : Int)) != ((s[0]'h0).toNat : Int)) = false := by simp
  go_enter Try.func19, Try.ntmps19
  go_wp2
  go_ret
  rw [hx.out]
  exact ⟨rfl, rfl⟩

set_option maxHeartbeats 400000 in
theorem consume_no (b : Nat) (s : ByteArray) (c : Int) (w : World) (hP : PAt b s w) (hc : ∀ h0 : 0 < s.size, ((s[0]'h0).toNat : Int) ≠ c) :
    Calls Try.prog 19 #[.pointer (some ⟨b, 0, none⟩), .int .u8 c] w fun e w' => e = .returned (.bool false) ∧ w = w' := by
  have hcell := hP.cell
  by_cases h0 : 0 < s.size
  · have hne : ((s.size : Int) == 0) = false := beq_eq_false_iff_ne.2 (by omega)
    have hb : ((((s[0]'h0).toNat : Int)) != c) = true := by simpa using hc h0
    clear hc
    go_enter Try.func19, Try.ntmps19
    go_wp2
    go_ret
    exact ⟨rfl, rfl⟩
  · have hne : ((s.size : Int) == 0) = true := beq_iff_eq.2 (by omega)
    clear hc
    go_enter Try.func19, Try.ntmps19
    go_wp2
    go_ret
    exact ⟨rfl, rfl⟩


theorem BuilderAtF.setBelow {T e : TypeId} {B b : Nat} {p : Value} {bs : List Value} {w : World} (h : Lib.BuilderAtF T e B b p bs w) {k : Nat} (hk : k < B) (x : Value) : Lib.BuilderAtF T e B b p bs (w.setCell ⟨k, 0, none⟩ x) := by
  obtain ⟨hB, v, hb, hown, hne⟩ := h
  refine ⟨hB, v, (Below.heap_setCell _ _ _ _ (by simp; omega)).trans hb, ⟨hown.1, ?_⟩, hne⟩
  rcases hown.2 with hn | ⟨g, cap, cur, fz, hv, hbg, hg, rest⟩
  · exact .inl hn
  · exact .inr ⟨g, cap, cur, fz, hv, hbg, (Below.heap_setCell _ _ _ _ (by simp; omega)).trans hg, rest⟩

theorem IsBuilderF.setBelow {T e : TypeId} {B b : Nat} {bs : List Value} {w : World} (h : Lib.IsBuilderF T e B b bs w) {k : Nat} (hk : k < B) (x : Value) : Lib.IsBuilderF T e B b bs (w.setCell ⟨k, 0, none⟩ x) :=
  h.elim (fun y => .inl (BuilderAtF.setBelow y hk x)) (fun y => .inr (BuilderAtF.setBelow y hk x))

theorem beq_cast (d : Nat) : ((d : Int) == 0) = (d == 0) := by
  rw [Bool.eq_iff_iff, beq_iff_eq, beq_iff_eq]; omega

/-- How long the parser's text is. -/
def pLen (b : Nat) (w : World) : Nat := match w.cell? ⟨b, 0, none⟩ with | some (.string t) => t.size | _ => 0
theorem PAt.pLen {b : Nat} {s : ByteArray} {w : World} (h : PAt b s w) : pLen b w = s.size := by
  unfold Go.Proofs.Ytmneehbhhofabaa.pLen; rw [h.cell]

theorem list_cons (t : ByteArray) (h0 : 0 < t.size) : t.data.toList = t[0] :: (tailB t).data.toList := by
  have h := drop_cons t 0 h0
  rw [tailB_list, ← List.drop_one]
  exact h
theorem get_tail (t : ByteArray) (h : 1 < t.size) (h' : 0 < (tailB t).size) : ∃ x r, t.data.toList = t[0] :: x :: r ∧ (tailB t)[0] = x ∧ (tailB (tailB t)).data.toList = r := by
  have h1 := list_cons t (by omega)
  have h2 := list_cons (tailB t) h'
  exact ⟨_, _, by rw [h1, h2], rfl, rfl⟩

set_option maxHeartbeats 1000000 in
set_option maxRecDepth 100000 in
theorem consumeComment_any (b : Nat) (s : ByteArray) (w : World) (hP : PAt b s w) (hs : s.size ≤ 1000000000) :
    Calls Try.prog 20 #[.pointer (some ⟨b, 0, none⟩)] w fun e w' =>
      ∃ x t : ByteArray, e = .returned (.tuple #[.string x, .bool (comment s.data.toList 1 false).2]) ∧ PAt b t w' ∧ t.data.toList = (comment s.data.toList 1 false).1 ∧ w.grownBy w' (some b) := by
  have hlt := hP.lt
  go_enter Try.func20, Try.ntmps20
  go_wp2
  go_loopw [4] (fun dv wr => ∃ (d : Nat) (t : ByteArray) (acc : List UInt8), dv = .int .i64 d ∧ PAt b t wr ∧ Lib.IsBuilderF 49 5 w.heap.size w.heap.size (Lib.byteCells acc) wr ∧ w.grownBy wr (some b) ∧ Hid (comment t.data.toList d false = comment s.data.toList 1 false) ∧ acc.length + t.size ≤ s.size ∧ d + t.size ≤ s.size + 1) (fun _ wr => pLen b wr)
  case atStart =>
    have hP1 : PAt b s (w.alloc (.cells #[.pointer none, .slice none 0 0] 49)) := hP.below ((Below.refl w.heap.size w).alloc (Nat.le_refl _) _) hlt
    exact ⟨1, s, [], rfl, hP1, Lib.IsBuilderF.of (Lib.fresh_isBuilder 49 5 w), World.grownBy_alloc _ _ _, rfl, by simp, by omega⟩
  case round =>
    obtain ⟨d, t, acc, rfl, hPt, hI, hgr, hcm, hac, hds⟩ := hrel
    have hc := hPt.cell
    have hf := hPt.free
    have hwz := hgr.size
    by_cases hgo : 0 < t.size ∧ d ≠ 0
    · obtain ⟨h0, hd0⟩ := hgo
      have e0 : ((t.size : Int) == 0) = false := beq_eq_false_iff_ne.2 (by omega)
      have e1 : ((d : Int) == 0) = false := beq_eq_false_iff_ne.2 (by omega)
      have hcons := hidF (list_cons t h0)
      by_cases h92 : t[0] = 92 ∧ 1 < t.size
      · obtain ⟨h92, h1⟩ := h92
        have hP2 := hPt.put (tailB t)
        have hI2 := IsBuilderF.setBelow hI hlt (.string (tailB t))
        have ht2 : 0 < (tailB t).size := by rw [tailB_size]; omega
        have ht3 := hidF (tailB_size t)
        have hc2 := hP2.cell
        have hf2 := hP2.free
        have x1 := from_one t
        have x2 := from_one (tailB t)
        have hwz2 : w.heap.size ≤ (wr.setCell ⟨b, 0, none⟩ (.string (tailB t))).heap.size := by simp [World.setCell]; omega
        have e2 : ((t[0].toNat : Int) == 92) = true := by rw [h92]; rfl
        have e3 : (1 : Int) < (t.size : Int) := by omega
        have e4 : (0 : Int) < (d : Int) := by omega
        have h92' := hidF h92
        clear h92
        go_wp2_with (first | (go_at_call 23; go_in) | (go_at_call 25; go_in) | (go_at_call 24; go_in))
        refine (WriteByte_k w.heap.size w.heap.size _ _ _ hI2 (by rw [Lib.byteCells_length]; omega) hwz2).mono ?_
        rintro e W1 ⟨rfl, h1', b1, k1⟩
        have hP3 := hP2.below b1 hlt
        have hc3 := hP3.cell
        have hf3 := hP3.free
        go_wp2
        go_roundw
        case rel =>
          refine ⟨d, tailB (tailB t), acc ++ [(tailB t)[0]], rfl, hP3.put _, ?_, ?_, ?_, ?_, ?_⟩
          · rw [Lib.byteCells_append]; exact IsBuilderF.setBelow (Or.inr h1') hlt _
          · exact grown_trans (grown_then (grown_trans hgr (grown_set _ _ _)) b1 (Nat.le_refl _)) (grown_set _ _ _)
          · obtain ⟨x, r, q1, q2, q3⟩ := get_tail t h1 ht2
            show comment _ _ _ = _
            rw [← hcm.out, q1, q3, h92'.out]
            simp [comment, hd0]
          · simp only [List.length_append, List.length_cons, List.length_nil, tailB_size]; omega
          · simp only [tailB_size]; omega
        case measure =>
          rw [PAt.pLen hPt, PAt.pLen (hP3.put _)]
          simp only [tailB_size]; omega
      · have e4 : (0 : Int) < (d : Int) := by omega
        by_cases h92 : t[0] = 92
        · have h1 : t.size = 1 := by
            have : ¬ 1 < t.size := fun h => ‹¬ (t[0] = 92 ∧ 1 < t.size)› ⟨h92, h⟩
            omega
          have x1 := from_one t
          have e2 : ((t[0].toNat : Int) == 92) = true := by rw [h92]; rfl
          have e3 : decide ((1 : Int) < (t.size : Int)) = false := decide_eq_false (by omega)
          have e5 : ((t[0].toNat : Int) == 40) = false := by rw [h92]; rfl
          have e6 : ((t[0].toNat : Int) == 41) = false := by rw [h92]; rfl
          have h92' := hidF h92
          have h1'' := hidF h1
          clear h92 h1
          go_wp2_with (first | (go_at_call 23; go_in) | (go_at_call 25; go_in) | (go_at_call 24; go_in))
          refine (WriteByte_k w.heap.size w.heap.size _ _ _ hI (by rw [Lib.byteCells_length]; omega) hwz).mono ?_
          rintro e W1 ⟨rfl, h1', b1, k1⟩
          have hP3 := hPt.below b1 hlt
          have hc3 := hP3.cell
          have hf3 := hP3.free
          go_wp2
          go_roundw
          case rel =>
            refine ⟨d, tailB t, acc ++ [t[0]], by go_num, hP3.put _, ?_, ?_, ?_, ?_, ?_⟩
            · rw [Lib.byteCells_append]; exact IsBuilderF.setBelow (Or.inr h1') hlt _
            · exact grown_trans (grown_then hgr b1 (Nat.le_refl _)) (grown_set _ _ _)
            · show comment _ _ _ = _
              rw [← hcm.out, hcons.out]
              have h1 := h1''.out
              have e7 : (tailB t).data.toList = [] := by rw [← List.length_eq_zero_iff, Array.length_toList]; have := tailB_size t; rw [h1] at this; exact this
              rw [h92'.out, e7]
              simp [comment, hd0]
            · have h1 := h1''.out; simp only [List.length_append, List.length_cons, List.length_nil, tailB_size]; omega
            · have h1 := h1''.out; simp only [tailB_size]; omega
          case measure =>
            rw [PAt.pLen hPt, PAt.pLen (hP3.put _)]
            have h1 := h1''.out; simp only [tailB_size]; omega
        · have e2 : ((t[0].toNat : Int) == 92) = false := by rw [beq_eq_false_iff_ne]; intro e; apply h92; apply UInt8.toNat_inj.1; simpa using (by omega : t[0].toNat = 92)
          by_cases h40 : t[0] = 40
          · have e5 : ((t[0].toNat : Int) == 40) = true := by rw [h40]; rfl
            have h40' := hidF h40
            clear h40
            have e8 : (0 : Int) < (d : Int) + 1 := by omega
            have x1 := from_one t
            go_wp2_with (first | (go_at_call 23; go_in) | (go_at_call 25; go_in) | (go_at_call 24; go_in))
            refine (WriteByte_k w.heap.size w.heap.size _ _ _ hI (by rw [Lib.byteCells_length]; omega) hwz).mono ?_
            rintro e W1 ⟨rfl, h1', b1, k1⟩
            have hP3 := hPt.below b1 hlt
            have hc3 := hP3.cell
            have hf3 := hP3.free
            go_wp2
            go_roundw
            case rel =>
              refine ⟨d + 1, tailB t, acc ++ [t[0]], by go_num, hP3.put _, ?_, ?_, ?_, ?_, ?_⟩
              · rw [Lib.byteCells_append]; exact IsBuilderF.setBelow (Or.inr h1') hlt _
              · exact grown_trans (grown_then hgr b1 (Nat.le_refl _)) (grown_set _ _ _)
              · show comment _ _ _ = _
                rw [← hcm.out, hcons.out]
                rw [h40'.out]
                simp [comment, hd0]
              · simp only [List.length_append, List.length_cons, List.length_nil, tailB_size]; omega
              · simp only [tailB_size]; omega
            case measure =>
              rw [PAt.pLen hPt, PAt.pLen (hP3.put _)]
              simp only [tailB_size]; omega
          · have e5 : ((t[0].toNat : Int) == 40) = false := by rw [beq_eq_false_iff_ne]; intro e; apply h40; apply UInt8.toNat_inj.1; simpa using (by omega : t[0].toNat = 40)
            by_cases h41 : t[0] = 41
            · have e6 : ((t[0].toNat : Int) == 41) = true := by rw [h41]; rfl
              have h41' := hidF h41
              clear h41
              by_cases hd1 : d = 1
              · subst hd1
                have x1 := from_one t
                go_wp2_with (first | (go_at_call 23; go_in) | (go_at_call 25; go_in) | (go_at_call 24; go_in))
                go_roundw
                case rel =>
                  refine ⟨0, tailB t, acc, by go_num, hPt.put _, ?_, ?_, ?_, ?_, ?_⟩
                  · exact IsBuilderF.setBelow hI hlt _
                  · exact grown_trans hgr (grown_set _ _ _)
                  · show comment _ _ _ = _
                    rw [← hcm.out, hcons.out]
                    rw [h41'.out]
                    simp [comment]
                  · simp only [tailB_size]; omega
                  · simp only [tailB_size]; omega
                case measure =>
                  rw [PAt.pLen hPt, PAt.pLen (hPt.put _)]
                  simp only [tailB_size]; omega
              · have e8 : (0 : Int) < (d : Int) - 1 := by omega
                have x1 := from_one t
                go_wp2_with (first | (go_at_call 23; go_in) | (go_at_call 25; go_in) | (go_at_call 24; go_in))
                refine (WriteByte_k w.heap.size w.heap.size _ _ _ hI (by rw [Lib.byteCells_length]; omega) hwz).mono ?_
                rintro e W1 ⟨rfl, h1', b1, k1⟩
                have hP3 := hPt.below b1 hlt
                have hc3 := hP3.cell
                have hf3 := hP3.free
                go_wp2
                go_roundw
                case rel =>
                  refine ⟨d - 1, tailB t, acc ++ [t[0]], by go_num, hP3.put _, ?_, ?_, ?_, ?_, ?_⟩
                  · rw [Lib.byteCells_append]; exact IsBuilderF.setBelow (Or.inr h1') hlt _
                  · exact grown_trans (grown_then hgr b1 (Nat.le_refl _)) (grown_set _ _ _)
                  · show comment _ _ _ = _
                    rw [← hcm.out, hcons.out]
                    rw [h41'.out]
                    simp [comment, hd0]
                  · simp only [List.length_append, List.length_cons, List.length_nil, tailB_size]; omega
                  · simp only [tailB_size]; omega
                case measure =>
                  rw [PAt.pLen hPt, PAt.pLen (hP3.put _)]
                  simp only [tailB_size]; omega
            · have e6 : ((t[0].toNat : Int) == 41) = false := by rw [beq_eq_false_iff_ne]; intro e; apply h41; apply UInt8.toNat_inj.1; simpa using (by omega : t[0].toNat = 41)
              have x1 := from_one t
              go_wp2_with (first | (go_at_call 23; go_in) | (go_at_call 25; go_in) | (go_at_call 24; go_in))
              refine (WriteByte_k w.heap.size w.heap.size _ _ _ hI (by rw [Lib.byteCells_length]; omega) hwz).mono ?_
              rintro e W1 ⟨rfl, h1', b1, k1⟩
              have hP3 := hPt.below b1 hlt
              have hc3 := hP3.cell
              have hf3 := hP3.free
              go_wp2
              go_roundw
              case rel =>
                refine ⟨d, tailB t, acc ++ [t[0]], by go_num, hP3.put _, ?_, ?_, ?_, ?_, ?_⟩
                · rw [Lib.byteCells_append]; exact IsBuilderF.setBelow (Or.inr h1') hlt _
                · exact grown_trans (grown_then hgr b1 (Nat.le_refl _)) (grown_set _ _ _)
                · show comment _ _ _ = _
                  rw [← hcm.out, hcons.out]
                  simp [comment, hd0, h92, h40, h41]
                · simp only [List.length_append, List.length_cons, List.length_nil, tailB_size]; omega
                · simp only [tailB_size]; omega
              case measure =>
                rw [PAt.pLen hPt, PAt.pLen (hP3.put _)]
                simp only [tailB_size]; omega
    · have hfin : comment t.data.toList d false = (t.data.toList, d == 0) := by
        by_cases hd0 : d = 0
        · subst hd0; rw [comment_zero]; rfl
        · have : t.data.toList = [] := by
            have : t.size = 0 := by omega
            rw [← List.length_eq_zero_iff, Array.length_toList]; exact this
          rw [this]; rfl
      have hcm2 := hcm.out
      rw [hfin] at hcm2
      have HC := hidF hcm2
      clear hcm2 hfin
      by_cases h0 : t.size = 0
      · have e0 : ((t.size : Int) == 0) = true := beq_iff_eq.2 (by omega)
        go_wp2_with (first | (go_at_call 23; go_in) | (go_at_call 25; go_in))
        refine (Try.Builder_String_any_k w.heap.size w.heap.size acc _ hI (by omega)).mono ?_
        rintro e W1 ⟨rfl, _, b1, _⟩
        go_wp2
        go_ret2
        refine ⟨⟨acc.toArray⟩, t, ?_, hPt.below b1 hlt, by rw [← HC.out], grown_then hgr b1 (Nat.le_refl _)⟩
        show Ending.returned (.tuple #[.string ⟨acc.toArray⟩, .bool ((d : Int) == 0)]) = _
        rw [← HC.out, ← beq_cast d]
      · have e0 : ((t.size : Int) == 0) = false := beq_eq_false_iff_ne.2 (by omega)
        have e1 : ((d : Int) == 0) = true := beq_iff_eq.2 (by omega)
        go_wp2_with (first | (go_at_call 23; go_in) | (go_at_call 25; go_in))
        refine (Try.Builder_String_any_k w.heap.size w.heap.size acc _ hI (by omega)).mono ?_
        rintro e W1 ⟨rfl, _, b1, _⟩
        go_wp2
        go_ret2
        refine ⟨⟨acc.toArray⟩, t, ?_, hPt.below b1 hlt, by rw [← HC.out], grown_then hgr b1 (Nat.le_refl _)⟩
        show Ending.returned (.tuple #[.string ⟨acc.toArray⟩, .bool true]) = _
        rw [← HC.out, ← beq_cast d, e1]

end Go.Proofs.Ytmneehbhhofabaa
