/- Fields in the order of their keys: such a list is fixed by what stands under each key. No program in sight. -/
import Derived.Test.YtddnjdapdcopgaaDoorHdL
import Derived.Sort.Walk0
namespace Go.Proofs.YtddnjdapdcopgaaDoor
open Go.RowKit

/-- Go's '>' on texts. -/
def gtK (a b : ByteArray) : Bool := !(Op.bytesLess a.toList b.toList || a.toList == b.toList)
theorem gtK_false {a b : ByteArray} : gtK a b = false ↔ a.toList ≤ b.toList := by
  unfold gtK
  rw [Bool.not_eq_false', Bool.or_eq_true, bytesLess_eq, decide_eq_true_iff, beq_iff_eq]
  constructor
  · rintro (h | h)
    · exact List.le_of_lt h
    · rw [h]; exact List.le_refl _
  · intro h
    by_cases e : a.toList < b.toList
    · exact .inl e
    · exact .inr (List.le_antisymm h (List.not_lt.1 e))
theorem gtK_antisymm {a b : ByteArray} (h1 : gtK a b = false) (h2 : gtK b a = false) : a = b := by
  have h := List.le_antisymm (gtK_false.1 h1) (gtK_false.1 h2)
  rw [Lib.toList_data, Lib.toList_data] at h
  rw [← list_mkB a, ← list_mkB b, h]
theorem gtK_trans {a b c : ByteArray} (h1 : gtK a b = false) (h2 : gtK b c = false) : gtK a c = false := gtK_false.2 (List.le_trans (gtK_false.1 h1) (gtK_false.1 h2))
theorem gtK_total {a b : ByteArray} (h : gtK a b = true) : gtK b a = false := by
  rcases List.le_total a.toList b.toList with h1 | h1
  · rw [gtK_false.2 h1] at h; cases h
  · exact gtK_false.2 h1

def SortedK (L : List (ByteArray × ByteArray)) : Prop := L.Pairwise (fun p q => gtK p.1 q.1 = false)
def filK (L : List (ByteArray × ByteArray)) (k : ByteArray) : List (ByteArray × ByteArray) := L.filter (fun p => decide (p.1 = k))

theorem filK_mem {L : List (ByteArray × ByteArray)} {p : ByteArray × ByteArray} (h : p ∈ L) : p ∈ filK L p.1 := List.mem_filter.2 ⟨h, by simp⟩
theorem sorted_unique : ∀ {L M : List (ByteArray × ByteArray)}, SortedK L → SortedK M → (∀ k, filK L k = filK M k) → L = M
  | [], [], _, _, _ => rfl
  | [], q :: M, _, _, h => by
    have h1 := filK_mem (List.mem_cons_self (a := q) (l := M))
    rw [← h] at h1
    cases h1
  | p :: L, [], _, _, h => by
    have h1 := filK_mem (List.mem_cons_self (a := p) (l := L))
    rw [h] at h1
    cases h1
  | p :: L, q :: M, hL, hM, h => by
    obtain ⟨hp, hL'⟩ := List.pairwise_cons.1 hL
    obtain ⟨hq, hM'⟩ := List.pairwise_cons.1 hM
    have hpq : p.1 = q.1 := by
      have h1 : p ∈ q :: M := (List.mem_filter.1 (by have := filK_mem (List.mem_cons_self (a := p) (l := L)); rw [h] at this; exact this)).1
      have h2 : q ∈ p :: L := (List.mem_filter.1 (by have := filK_mem (List.mem_cons_self (a := q) (l := M)); rw [← h] at this; exact this)).1
      rcases List.mem_cons.1 h1 with e | h1
      · rw [e]
      · rcases List.mem_cons.1 h2 with e | h2
        · rw [e]
        · exact gtK_antisymm (hp q h2) (hq p h1)
    have hk := h p.1
    unfold filK at hk
    rw [List.filter_cons_of_pos (by simp), List.filter_cons_of_pos (by simp [hpq])] at hk
    injection hk with e1 e2
    subst e1
    have ht : L = M := sorted_unique hL' hM' (fun k => by
      have hk := h k
      unfold filK at hk ⊢
      by_cases hpk : p.1 = k
      · rw [List.filter_cons_of_pos (by simp [hpk]), List.filter_cons_of_pos (by simp [hpk])] at hk
        injection hk
      · rw [List.filter_cons_of_neg (by simp [hpk]), List.filter_cons_of_neg (by simp [hpk])] at hk
        exact hk)
    rw [ht]

/-- Values under one key, put in at place i. -/
def insK (L : List (ByteArray × ByteArray)) (i : Nat) (k : ByteArray) (vs : List ByteArray) : List (ByteArray × ByteArray) := L.take i ++ (vs.map (fun v => (k, v)) ++ L.drop i)
/-- The place that is sought from behind. -/
def PlaceK (L : List (ByteArray × ByteArray)) (k : ByteArray) (i : Nat) : Prop := i ≤ L.length ∧ (∀ p ∈ L.drop i, gtK p.1 k = true) ∧ (∀ p ∈ L.take i, gtK p.1 k = false)

theorem insK_sorted {L : List (ByteArray × ByteArray)} {i : Nat} {k : ByteArray} {vs : List ByteArray} (h : SortedK L) (hp : PlaceK L k i) : SortedK (insK L i k vs) := by
  obtain ⟨_, h1, h2⟩ := hp
  have h0 := h
  unfold SortedK at h0
  rw [← List.take_append_drop i L, List.pairwise_append] at h0
  obtain ⟨ht, hd, htd⟩ := h0
  have hm : ∀ p, p ∈ vs.map (fun v => (k, v)) → p.1 = k := fun p hp => by obtain ⟨v, _, rfl⟩ := List.mem_map.1 hp; rfl
  have hrefl : gtK k k = false := gtK_false.2 (List.le_refl _)
  unfold insK SortedK
  rw [List.pairwise_append, List.pairwise_append]
  refine ⟨ht, ⟨?_, hd, fun a ha b hb => by rw [hm a ha]; exact gtK_total (h1 b hb)⟩, fun a ha b hb => ?_⟩
  · rw [List.pairwise_map]
    induction vs with
    | nil => exact .nil
    | cons v r ih => exact .cons (fun _ _ => hrefl) (ih (fun p hp => by obtain ⟨v, _, rfl⟩ := List.mem_map.1 hp; rfl))
  · rcases List.mem_append.1 hb with hb | hb
    · rw [hm b hb]; exact h2 a ha
    · exact htd a ha b hb
theorem insK_same {L : List (ByteArray × ByteArray)} {i : Nat} {k : ByteArray} {vs : List ByteArray} (hp : PlaceK L k i) : filK (insK L i k vs) k = filK L k ++ vs.map (fun v => (k, v)) := by
  have hd : (L.drop i).filter (fun p => decide (p.1 = k)) = [] := by
    rw [List.filter_eq_nil_iff]
    intro p hp2
    have h1 := hp.2.1 p hp2
    simp only [decide_eq_true_eq]
    intro e
    rw [e, gtK_false.2 (List.le_refl _)] at h1
    cases h1
  have e : filK L k = (L.take i).filter (fun p => decide (p.1 = k)) := by
    unfold filK
    conv => lhs; rw [← List.take_append_drop i L]
    rw [List.filter_append, hd, List.append_nil]
  rw [e]
  unfold filK insK
  rw [List.filter_append, List.filter_append, hd, List.append_nil]
  congr 1
  rw [List.filter_eq_self]
  intro p hp2
  obtain ⟨v, _, rfl⟩ := List.mem_map.1 hp2
  simp
theorem insK_other {L : List (ByteArray × ByteArray)} {i : Nat} {k k' : ByteArray} {vs : List ByteArray} (h : k ≠ k') : filK (insK L i k vs) k' = filK L k' := by
  unfold filK insK
  conv => rhs; rw [← List.take_append_drop i L]
  rw [List.filter_append, List.filter_append, List.filter_append]
  congr 1
  have e : (vs.map (fun v => (k, v))).filter (fun p => decide (p.1 = k')) = [] := by
    rw [List.filter_eq_nil_iff]
    intro p hp2
    obtain ⟨v, _, rfl⟩ := List.mem_map.1 hp2
    simpa using h
  rw [e, List.nil_append]
end Go.Proofs.YtddnjdapdcopgaaDoor
