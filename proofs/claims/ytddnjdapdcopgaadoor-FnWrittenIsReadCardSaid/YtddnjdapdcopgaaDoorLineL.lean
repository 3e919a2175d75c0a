/- Lines of a text, plainly. -/
import Derived.Test.YtddnjdapdcopgaaDoorBase
namespace Go.Proofs.YtddnjdapdcopgaaDoor
open Go.RowKit

/-- Up to the first line feed, and what is behind it. -/
def brk : List UInt8 → Option (List UInt8 × List UInt8)
  | [] => none
  | c :: r => if c = 10 then some ([], r) else (brk r).map fun p => (c :: p.1, p.2)
/-- A line without the carriage return at its end. -/
def chop (l : List UInt8) : List UInt8 := if l.getLast? = some 13 then l.dropLast else l

theorem brk_some : ∀ {l a t : List UInt8}, brk l = some (a, t) → l = a ++ 10 :: t ∧ 10 ∉ a
  | [], a, t, h => by simp [brk] at h
  | c :: r, a, t, h => by
    unfold brk at h
    split at h
    · rename_i hc
      injection h with h
      injection h with h1 h2
      subst h1; subst h2; subst hc
      exact ⟨rfl, by simp⟩
    · rename_i hc
      cases hb : brk r with
      | none => rw [hb] at h; cases h
      | some p =>
        rw [hb] at h
        obtain ⟨a2, t2⟩ := p
        injection h with h
        injection h with h1 h2
        subst h1; subst h2
        obtain ⟨e, hn⟩ := brk_some hb
        exact ⟨by rw [e]; rfl, by simp only [List.mem_cons, not_or]; exact ⟨fun e => hc e.symm, hn⟩⟩
theorem brk_none : ∀ {l : List UInt8}, brk l = none → 10 ∉ l
  | [], _ => by simp
  | c :: r, h => by
    unfold brk at h
    split at h
    · cases h
    · rename_i hc
      cases hb : brk r with
      | none => simp only [List.mem_cons, not_or]; exact ⟨fun e => hc e.symm, brk_none hb⟩
      | some p => rw [hb] at h; cases h
theorem brk_app {a : List UInt8} (ha : 10 ∉ a) (t : List UInt8) : brk (a ++ t) = (brk t).map fun p => (a ++ p.1, p.2) := by
  induction a with
  | nil => cases h : brk t <;> simp [h]
  | cons c r ih =>
    simp only [List.mem_cons, not_or] at ha
    show brk (c :: (r ++ t)) = _
    have e : brk (c :: (r ++ t)) = (brk (r ++ t)).map fun p => (c :: p.1, p.2) := by
      conv => lhs; unfold brk
      rw [if_neg (fun e => ha.1 e.symm)]
    rw [e, ih ha.2]
    cases h : brk t <;> simp
theorem brk_at (a t : List UInt8) (ha : 10 ∉ a) : brk (a ++ 10 :: t) = some (a, t) := by
  rw [brk_app ha]
  simp [brk]
theorem brk_not {l : List UInt8} (h : 10 ∉ l) : brk l = none := by
  have := brk_app h []
  rw [List.append_nil] at this
  rw [this]; rfl

theorem index_brk (l : List UInt8) : (brk l = none ∧ Lib.indexByte l 10 = -1) ∨ ∃ a t, brk l = some (a, t) ∧ Lib.indexByte l 10 = (a.length : Int) := by
  induction l with
  | nil => exact .inl ⟨rfl, rfl⟩
  | cons c r ih =>
    by_cases hc : c = 10
    · subst hc
      exact .inr ⟨[], r, by simp [brk], by simp [Lib.indexByte]⟩
    · have h1 : (c == 10) = false := by simpa using hc
      rcases ih with ⟨h2, h3⟩ | ⟨a, t, h2, h3⟩
      · left
        refine ⟨by unfold brk; rw [if_neg hc, h2]; rfl, ?_⟩
        unfold Lib.indexByte
        rw [h1, h3]; rfl
      · right
        refine ⟨c :: a, t, by unfold brk; rw [if_neg hc, h2]; rfl, ?_⟩
        unfold Lib.indexByte
        rw [h1, h3]
        have : ((a.length : Int) == -1) = false := beq_eq_false_iff_ne.2 (by omega)
        rw [this]
        simp

/-- A space or a tab. -/
def isBl (c : UInt8) : Bool := c == 32 || c == 9
def ltrim (l : List UInt8) : List UInt8 := l.dropWhile isBl
def rtrim (l : List UInt8) : List UInt8 := (l.reverse.dropWhile isBl).reverse
def trimB (l : List UInt8) : List UInt8 := rtrim (ltrim l)

theorem dropWhile_at (p : UInt8 → Bool) : ∀ (l : List UInt8) (i : Nat), (l.take i).all p = true → (∀ c, l[i]? = some c → p c = false) → l.dropWhile p = l.drop i
  | [], i, _, _ => by simp
  | c :: r, 0, _, h => by
    rw [List.dropWhile_cons, if_neg (by rw [h c rfl]; decide)]; rfl
  | c :: r, i + 1, h1, h2 => by
    simp only [List.take_succ_cons, List.all_cons, Bool.and_eq_true] at h1
    rw [List.dropWhile_cons, if_pos h1.1, List.drop_succ_cons]
    exact dropWhile_at p r i h1.2 (fun x hx => h2 x (by rw [List.getElem?_cons_succ]; exact hx))
theorem ltrim_at (l : List UInt8) (i : Nat) (h1 : (l.take i).all isBl = true) (h2 : ∀ c, l[i]? = some c → isBl c = false) : ltrim l = l.drop i := dropWhile_at isBl l i h1 h2
theorem rtrim_at (l : List UInt8) (k : Nat) (hk : k ≤ l.length) (h1 : (l.drop k).all isBl = true) (h2 : ∀ j c, k = j + 1 → l[j]? = some c → isBl c = false) : rtrim l = l.take k := by
  unfold rtrim
  have e : l.reverse = (l.drop k).reverse ++ (l.take k).reverse := by rw [← List.reverse_append, List.take_append_drop]
  have hl : (l.drop k).reverse.length = l.length - k := by rw [List.length_reverse, List.length_drop]
  rw [dropWhile_at isBl l.reverse (l.length - k) ?_ ?_, e, List.drop_append, List.drop_of_length_le (by omega), hl, Nat.sub_self, List.nil_append, List.drop_zero, List.reverse_reverse]
  · rw [e, List.take_append_of_le_length (by omega), List.take_of_length_le (by omega), List.all_reverse]; exact h1
  · intro c hc
    by_cases hk0 : k = 0
    · rw [List.getElem?_eq_none (by rw [List.length_reverse]; omega)] at hc; cases hc
    · rw [List.getElem?_reverse (by omega)] at hc
      exact h2 (k - 1) c (by omega) (by rw [← hc]; congr 1; omega)
theorem trimB_len (l : List UInt8) : (trimB l).length ≤ l.length := by
  have h1 : ∀ l : List UInt8, (l.dropWhile isBl).length ≤ l.length := fun l => List.Sublist.length_le (List.dropWhile_sublist isBl)
  unfold trimB rtrim ltrim
  rw [List.length_reverse]
  have := h1 (l.dropWhile isBl).reverse
  rw [List.length_reverse] at this
  have := h1 l
  omega

/-- A line has been taken from st; t is behind it. -/
def LineR (st l t : List UInt8) : Prop := (∀ a t', brk st = some (a, t') → l = chop a ∧ t = t') ∧ (brk st = none → t = [] ∧ l = st) ∧ t.length < st.length ∧ l.length ≤ st.length
theorem LineR.len {st l t : List UInt8} (h : LineR st l t) : l.length + t.length ≤ st.length := by
  cases hb : brk st with
  | none => rw [(h.2.1 hb).1]; simpa using h.2.2.2
  | some p =>
    obtain ⟨a, t'⟩ := p
    obtain ⟨h1, h2⟩ := h.1 a t' hb
    obtain ⟨e, _⟩ := brk_some hb
    have hc : (chop a).length ≤ a.length := by unfold chop; split <;> simp
    rw [h1, h2, e, List.length_append, List.length_cons]; omega

theorem chop_head {a : List UInt8} (h : chop a ≠ []) : (chop a).head? = a.head? := by
  unfold chop at h ⊢
  split
  · rename_i hg
    rw [if_pos hg] at h
    cases a with
    | nil => rfl
    | cons x r =>
      cases r with
      | nil => exact absurd rfl h
      | cons y r => rfl
  · rfl
theorem LineR.head {st l t : List UInt8} (h : LineR st l t) (hl : l ≠ []) : l.head? = st.head? := by
  cases hb : brk st with
  | none => rw [(h.2.1 hb).2]
  | some p =>
    obtain ⟨a, t'⟩ := p
    obtain ⟨h1, _⟩ := h.1 a t' hb
    obtain ⟨e, _⟩ := brk_some hb
    rw [h1] at hl ⊢
    rw [chop_head hl, e]
    cases a with
    | nil => exact absurd rfl hl
    | cons x r => rfl
theorem dropWhile_nil (p : UInt8 → Bool) : ∀ l : List UInt8, l.dropWhile p = [] → ∀ y ∈ l, p y = true
  | [], _, y, hy => by cases hy
  | c :: r, h, y, hy => by
    rw [List.dropWhile_cons] at h
    split at h
    · rename_i hc
      rcases List.mem_cons.1 hy with rfl | hy
      · exact hc
      · exact dropWhile_nil p r h y hy
    · cases h
theorem trimB_ne {l : List UInt8} (hl : l ≠ []) (h : ∀ c, l.head? = some c → isBl c = false) : trimB l ≠ [] := by
  cases l with
  | nil => exact absurd rfl hl
  | cons x r =>
    have hx := h x rfl
    have h1 : ltrim (x :: r) = x :: r := by unfold ltrim; rw [List.dropWhile_cons, if_neg (by rw [hx]; decide)]
    unfold trimB
    rw [h1]
    unfold rtrim
    intro e
    have e2 : (x :: r).reverse.dropWhile isBl = [] := by
      have := congrArg List.reverse e
      rwa [List.reverse_reverse, List.reverse_nil] at this
    have := dropWhile_nil isBl _ e2
    rw [this x (by simp)] at hx
    cases hx
/-- What a line that may go on comes to: acc so far, st behind it. -/
inductive ContR : List UInt8 → List UInt8 → Option (List UInt8) → List UInt8 → Prop
  | stop (acc st : List UInt8) (h : ∀ c, st.head? = some c → isBl c = false) : ContR acc st (some acc) st
  | eof (acc bl st : List UInt8) (h1 : bl ≠ []) (h2 : bl.all isBl = true) (h3 : brk st = none) : ContR acc (bl ++ st) none []
  | more (acc bl st l t : List UInt8) (o : Option (List UInt8)) (fin : List UInt8) (h1 : bl ≠ []) (h2 : bl.all isBl = true) (h3 : ∀ c, st.head? = some c → isBl c = false) (h4 : LineR st l t) (h5 : ContR (acc ++ 32 :: trimB l) t o fin) : ContR acc (bl ++ st) o fin

/-- What readContinuedLine comes to: err: the end. -/
def RclR (st kv : List UInt8) (err : Bool) (fin : List UInt8) : Prop :=
  (err = true ∧ kv = [] ∧ fin = [] ∧ (brk st = none ∨ ∃ l t, LineR st l t ∧ l ≠ [] ∧ ContR (trimB l) t none fin)) ∨
  (err = false ∧ ∃ l t, LineR st l t ∧ ((l = [] ∧ kv = [] ∧ fin = t) ∨ (l ≠ [] ∧ ContR (trimB l) t (some kv) fin)))
end Go.Proofs.YtddnjdapdcopgaaDoor
