/- Fields written line by line, with folds: what such a text is as a message. No program in sight. -/
import Derived.Test.YtddnjdapdcopgaaDoorMsgL
import Derived.Test.YtddnjdapdcopgaaDoorWrArgs
namespace Go.Proofs.YtddnjdapdcopgaaDoor
open Go.RowKit

/-- What follows the text T is read as if it stood behind cur, with the parts P. -/
def Fwd (T cur : List UInt8) (P : List (ByteArray × ByteArray)) : Prop := ∀ c o, MsgR P (cur ++ c) o → MsgR [] (T ++ c) o
/-- The end of a line. -/
def Eol (e : List UInt8) : Prop := e = [10] ∨ e = [13, 10]
def Clean (l : List UInt8) : Prop := ∀ x ∈ l, x ≠ 10 ∧ x ≠ 13

theorem Fwd.start : Fwd [] [] [] := fun _ _ h => h
theorem Fwd.app {T cur : List UInt8} {P : List (ByteArray × ByteArray)} (h : Fwd T cur P) (x : List UInt8) : Fwd (T ++ x) (cur ++ x) P := fun c o hm => by
  rw [List.append_assoc]
  exact h (x ++ c) o (by rw [← List.append_assoc]; exact hm)
theorem Clean.app {a b : List UInt8} (h : Clean a) (k : Clean b) : Clean (a ++ b) := fun x hx => by
  rcases List.mem_append.1 hx with hx | hx
  · exact h x hx
  · exact k x hx
theorem Clean.sub {a b : List UInt8} (h : Clean b) (k : ∀ x, x ∈ a → x ∈ b) : Clean a := fun x hx => h x (k x hx)
theorem clean_plain {l : List UInt8} (h : plainL l = true) : Clean l := fun x hx => by
  have h1 : plainC x = true := List.all_eq_true.1 h x hx
  refine ⟨fun e => ?_, fun e => ?_⟩ <;> rw [e] at h1 <;> exact absurd h1 (by decide)
theorem clean_bl {l : List UInt8} (h : l.all isBl = true) : Clean l := fun _ hx => isBl_ten (all_bl h hx)
theorem clean_name {l : List UInt8} (h : l.all nameC = true) : Clean l := fun x hx => (nameC_no (List.all_eq_true.1 h x hx)).2.2

theorem chop_clean {l : List UInt8} (h : Clean l) : chop l = l := by
  unfold chop
  rw [if_neg]
  intro e
  exact (h 13 (List.mem_of_getLast? e)).2 rfl
theorem lineS_eol {l e : List UInt8} (he : Eol e) (h : Clean l) (c : List UInt8) : lineS (l ++ (e ++ c)) = some (l, c) := by
  have h10 : 10 ∉ l := fun hx => (h 10 hx).1 rfl
  unfold lineS
  rcases he with rfl | rfl
  · rw [show l ++ ([10] ++ c) = l ++ 10 :: c from rfl, brk_at l c h10]
    show some (chop l, c) = _
    rw [chop_clean h]
  · rw [show l ++ ([13, 10] ++ c) = (l ++ [13]) ++ 10 :: c by simp, brk_at (l ++ [13]) c (by simp [h10])]
    show some (chop (l ++ [13]), c) = _
    unfold chop
    rw [if_pos (by simp), List.dropLast_concat]

theorem Fwd.first {T k u e : List UInt8} {P : List (ByteArray × ByteArray)} (h : Fwd T (k ++ 58 :: u) P) (he : Eol e) (hk : k.all nameC = true) (hk0 : k ≠ []) (hu : Clean u) : Fwd (T ++ e) [] (P ++ [(mkB (canon k), mkB (trimB u))]) := fun c o hm => by
  rw [List.append_assoc]
  refine h (e ++ c) o (MsgR.more P _ (k ++ 58 :: u) c k u o (lineS_eol he ?_ c) (cutC_at k u (fun x hx => (nameC_no (List.all_eq_true.1 hk x hx)).1)) hk hk0 hm)
  refine (clean_name hk).app (fun x hx => ?_)
  rcases List.mem_cons.1 hx with rfl | hx
  · decide
  · exact hu x hx
theorem Fwd.next {T y e x : List UInt8} {P : List (ByteArray × ByteArray)} {K : ByteArray} (h : Fwd T (32 :: y) (P ++ [(K, mkB x)])) (he : Eol e) (hy : Clean y) (hy0 : y ≠ []) (ht : trimB y = y) : Fwd (T ++ e) [] (P ++ [(K, mkB (x ++ 32 :: y))]) := fun c o hm => by
  have h1 : trimB (32 :: y) = y := (trimB_bl (p := [32]) rfl y).trans ht
  rw [List.append_assoc]
  refine h (e ++ c) o (MsgR.cont _ P K x _ (32 :: y) c o (lineS_eol he (fun z hz => ?_) c) rfl ⟨32, rfl, rfl⟩ (by rw [h1]; exact hy0) (by rw [h1]; exact hm))
  rcases List.mem_cons.1 hz with rfl | hz
  · decide
  · exact hy z hz

theorem trimB_id {l : List UInt8} (h1 : ∀ x, l.head? = some x → isBl x = false) (h2 : ∀ x, l.getLast? = some x → isBl x = false) : trimB l = l := by
  unfold trimB
  rw [ltrim_id h1, rtrim_id h2]
theorem trimmed_ends {v : List UInt8} (h : trimB v = v) : (∀ x, v.head? = some x → isBl x = false) ∧ ∀ x, v.getLast? = some x → isBl x = false := by
  have hl : ltrim v = v := by
    obtain ⟨b, hb, _⟩ := ltrim_split v
    have h1 := congrArg List.length h
    have h2 : (rtrim (ltrim v)).length ≤ (ltrim v).length := by
      unfold rtrim
      rw [List.length_reverse]
      have := (List.dropWhile_sublist isBl (l := (ltrim v).reverse)).length_le
      rw [List.length_reverse] at this
      exact this
    unfold trimB at h1
    have h3 := congrArg List.length hb
    rw [List.length_append] at h3
    have hb0 : b = [] := List.eq_nil_of_length_eq_zero (by omega)
    rw [hb0, List.nil_append] at hb
    exact hb.symm
  have hr : rtrim v = v := by
    unfold trimB at h
    rw [hl] at h
    exact h
  exact ⟨fun x hx => ltrim_head (by rw [hl]; exact hx), fun x hx => rtrim_last (by rw [hr]; exact hx)⟩

/-- Inside a field: j signs of its value have been written, some in lines that go on. -/
def FSt (T : List UInt8) (P : List (ByteArray × ByteArray)) (k v wb : List UInt8) (j : Nat) : Prop :=
  Fwd T (k ++ 58 :: (wb ++ v.take j)) P ∨
  ∃ i a, i < j ∧ v[i]? = some 32 ∧ v[i + 1]? = some a ∧ isBl a = false ∧ Fwd T (32 :: (v.take j).drop (i + 1)) (P ++ [(mkB (canon k), mkB (v.take i))])

theorem FSt.start {T k wb : List UInt8} {P : List (ByteArray × ByteArray)} (h : Fwd T [] P) (v : List UInt8) : FSt (T ++ (k ++ 58 :: wb)) P k v wb 0 := by
  left
  rw [List.take_zero, List.append_nil]
  have := h.app (k ++ 58 :: wb)
  rw [List.nil_append] at this
  exact this
theorem FSt.step {T k v wb : List UInt8} {P : List (ByteArray × ByteArray)} {j : Nat} {c : UInt8} (h : FSt T P k v wb j) (hc : v[j]? = some c) : FSt (T ++ [c]) P k v wb (j + 1) := by
  have e : v.take (j + 1) = v.take j ++ [c] := by rw [List.take_add_one, hc]; rfl
  have hj : j < v.length := (List.getElem?_eq_some_iff.1 hc).1
  rcases h with h | ⟨i, a, hi, h1, h2, h3, h⟩
  · left
    have := h.app [c]
    rw [e]
    simpa using this
  · right
    refine ⟨i, a, by omega, h1, h2, h3, ?_⟩
    rw [e, List.drop_append_of_le_length (by rw [List.length_take]; omega)]
    have := h.app [c]
    rw [List.cons_append] at this
    exact this
/-- What has been written of the value, as one line: both ways in which a line ends. -/
theorem FSt.close {T k v wb e : List UInt8} {P : List (ByteArray × ByteArray)} {j : Nat} (h : FSt T P k v wb j) (he : Eol e) (hk : k.all nameC = true) (hk0 : k ≠ []) (hv : Clean v) (hwb : wb.all isBl = true) (hj : 0 < j) (hjl : j ≤ v.length)
    (hh : ∀ x, v.head? = some x → isBl x = false) (b : UInt8) (hb : v[j - 1]? = some b) (hbb : isBl b = false) : Fwd (T ++ e) [] (P ++ [(mkB (canon k), mkB (v.take j))]) := by
  have hct : Clean (v.take j) := hv.sub (fun x hx => List.mem_of_mem_take hx)
  have hlast : (v.take j).getLast? = some b := by
    rw [List.getLast?_eq_getElem?, List.length_take, Nat.min_eq_left hjl, List.getElem?_take, if_pos (by omega), hb]
  rcases h with h | ⟨i, a, hi, h1, h2, h3, h⟩
  · have ht : trimB (wb ++ v.take j) = v.take j := by
      rw [trimB_bl hwb]
      refine trimB_id (fun x hx => hh x ?_) (fun x hx => ?_)
      · rw [List.head?_eq_getElem?, List.getElem?_take, if_pos hj] at hx
        rw [List.head?_eq_getElem?]
        exact hx
      · rw [hlast] at hx
        injection hx with hx
        rw [← hx]; exact hbb
    have := h.first he hk hk0 ((clean_bl hwb).app hct)
    rw [ht] at this
    exact this
  · have hij : i + 1 < j := by
      rcases Nat.lt_or_ge (i + 1) j with h4 | h4
      · exact h4
      · obtain rfl : j = i + 1 := by omega
        rw [Nat.add_sub_cancel, h1] at hb
        injection hb with hb
        rw [← hb] at hbb
        cases hbb
    have hne : (v.take j).drop (i + 1) ≠ [] := by
      intro e2
      have := congrArg List.length e2
      rw [List.length_drop, List.length_take, List.length_nil] at this
      omega
    have ht : trimB ((v.take j).drop (i + 1)) = (v.take j).drop (i + 1) := by
      refine trimB_id (fun x hx => ?_) (fun x hx => ?_)
      · rw [List.head?_eq_getElem?, List.getElem?_drop, List.getElem?_take, if_pos (by omega), Nat.add_zero, h2] at hx
        injection hx with hx
        rw [← hx]; exact h3
      · rw [List.getLast?_drop, if_neg (by rw [List.length_take]; omega), hlast] at hx
        injection hx with hx
        rw [← hx]; exact hbb
    have hw := h.next he (hct.sub (fun x hx => List.mem_of_mem_drop hx)) hne ht
    have e3 : v.take i ++ 32 :: (v.take j).drop (i + 1) = v.take j := by
      have e4 : (v.take j)[i]? = some 32 := by rw [List.getElem?_take, if_pos hi]; exact h1
      obtain ⟨h5, h6⟩ := List.getElem?_eq_some_iff.1 e4
      have e5 : (v.take j).drop i = 32 :: (v.take j).drop (i + 1) := by rw [List.drop_eq_getElem_cons h5, h6]
      have e6 : v.take i = (v.take j).take i := by rw [List.take_take, Nat.min_eq_left (by omega)]
      rw [← e5, e6, List.take_append_drop]
    rw [e3] at hw
    exact hw
/-- A fold ahead of the sign j. -/
theorem FSt.fold {T k v wb e : List UInt8} {P : List (ByteArray × ByteArray)} {j : Nat} {a b : UInt8} (h : FSt T P k v wb j) (he : Eol e) (hk : k.all nameC = true) (hk0 : k ≠ []) (hv : Clean v) (hwb : wb.all isBl = true) (hj : 0 < j)
    (hh : ∀ x, v.head? = some x → isBl x = false) (hc : v[j]? = some 32) (hb : v[j - 1]? = some b) (hbb : isBl b = false) (ha : v[j + 1]? = some a) (hab : isBl a = false) : FSt (T ++ e ++ [32]) P k v wb (j + 1) := by
  have hjl : j < v.length := (List.getElem?_eq_some_iff.1 hc).1
  have h1 := (h.close he hk hk0 hv hwb hj (by omega) hh b hb hbb).app [32]
  right
  refine ⟨j, a, by omega, hc, ha, hab, ?_⟩
  rw [List.drop_eq_nil_of_le (by rw [List.length_take]; omega)]
  exact h1
theorem FSt.done {T k v wb e : List UInt8} {P : List (ByteArray × ByteArray)} (h : FSt T P k v wb v.length) (he : Eol e) (hk : k.all nameC = true) (hk0 : k ≠ []) (hv : Clean v) (hwb : wb.all isBl = true) (ht : trimB v = v) (hv0 : v ≠ []) : Fwd (T ++ e) [] (P ++ [(mkB (canon k), mkB v)]) := by
  obtain ⟨h1, h2⟩ := trimmed_ends ht
  have hp := List.length_pos_iff.2 hv0
  have hg : v[v.length - 1]? = some (v[v.length - 1]'(by omega)) := List.getElem?_eq_getElem _
  have := h.close he hk hk0 hv hwb hp (Nat.le_refl _) h1 _ hg (h2 _ (by rw [List.getLast?_eq_getElem?]; exact hg))
  rw [List.take_length] at this
  exact this
/-- The whole. -/
theorem Fwd.all {T e body : List UInt8} {P : List (ByteArray × ByteArray)} (h : Fwd T [] P) (he : Eol e) : MsgR [] (T ++ (e ++ body)) (.good P body) :=
  h (e ++ body) _ (MsgR.fin P _ body (by
    have := lineS_eol he (l := []) (fun _ hx => by cases hx) body
    exact this))
end Go.Proofs.YtddnjdapdcopgaaDoor
