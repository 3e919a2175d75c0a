/- FnGetIgnoresCase: the plain lists, and the walk of the statement's own text. -/
import Derived.Test.YtmneehbhhofabaaGet
import Derived.Test.YtmneehbhhofabaaStrs
import Derived.Lib.Strings
namespace Go.Proofs.Ytmneehbhhofabaa
open Go.RowKit

theorem str_ne {a b : ByteArray} (h : a ≠ b) : (a.toList == b.toList) = false := by
  rw [beq_eq_false_iff_ne]
  intro e
  apply h
  rw [Lib.toList_data, Lib.toList_data] at e
  rw [← list_mkB a, ← list_mkB b, e]

/-- The fields that the statement makes. -/
def fieldsOf (ks vs : List ByteArray) : List (ByteArray × ByteArray) := List.zipWith (fun k v => (mkB (canon k.data.toList), v)) ks vs
def flat (fs : List (ByteArray × ByteArray)) : List Value := fs.flatMap (fun p => [.string p.1, .string p.2])

theorem flat_length : ∀ fs : List (ByteArray × ByteArray), (flat fs).length = fs.length * 2
  | [] => rfl
  | p :: r => by
    have := flat_length r
    simp [flat] at this ⊢
    omega
theorem flat_snoc (fs : List (ByteArray × ByteArray)) (k v : ByteArray) : flat (fs ++ [(k, v)]) = flat fs ++ [.string k, .string v] := by simp [flat]
theorem flat_get : ∀ (fs : List (ByteArray × ByteArray)) (i : Nat) (p : ByteArray × ByteArray), fs[i]? = some p → (flat fs)[i * 2]? = some (.string p.1) ∧ (flat fs)[i * 2 + 1]? = some (.string p.2)
  | [], i, p, h => by simp at h
  | q :: r, 0, p, h => by simp at h; subst h; exact ⟨rfl, rfl⟩
  | q :: r, i + 1, p, h => by
    have h1 : r[i]? = some p := by simpa using h
    have ih := flat_get r i p h1
    have e1 : (i + 1) * 2 = i * 2 + 1 + 1 := by omega
    rw [e1]
    have e2 : flat (q :: r) = Value.string q.1 :: Value.string q.2 :: flat r := rfl
    rw [e2]
    simpa using ih

theorem fieldsOf_length (ks vs : List ByteArray) (h : vs.length = ks.length) : (fieldsOf ks vs).length = ks.length := by simp [fieldsOf, h]
theorem fieldsOf_snoc (ks vs : List ByteArray) (i : Nat) (k v : ByteArray) (hk : ks[i]? = some k) (hv : vs[i]? = some v) :
    fieldsOf (ks.take (i + 1)) (vs.take (i + 1)) = fieldsOf (ks.take i) (vs.take i) ++ [(mkB (canon k.data.toList), v)] := by
  have h1 : (ks.take i).length = i := by
    have := (List.getElem?_eq_some_iff.1 hk).1; simp; omega
  have h2 : (vs.take i).length = i := by
    have := (List.getElem?_eq_some_iff.1 hv).1; simp; omega
  rw [List.take_add_one, List.take_add_one, hk, hv]
  unfold fieldsOf
  rw [List.zipWith_append (by omega)]
  rfl

theorem firstVal_string (fs : List (ByteArray × ByteArray)) (k : ByteArray) : ∃ s, firstVal fs k = .string s := by
  unfold firstVal
  cases h : valsOf fs k with
  | nil => exact ⟨_, rfl⟩
  | cons x r =>
    have hx : x ∈ valsOf fs k := by rw [h]; simp
    simp only [valsOf, List.mem_map] at hx
    obtain ⟨p, _, rfl⟩ := hx
    exact ⟨_, rfl⟩

def foundIn (fs : List (ByteArray × ByteArray)) (k : ByteArray) : Bool := fs.any (fun p => decide (p.1 = k))

theorem found_vals (fs : List (ByteArray × ByteArray)) (k : ByteArray) : foundIn fs k = true ↔ valsOf fs k ≠ [] := by
  simp [foundIn, valsOf, List.any_eq_true]

theorem firstVal_snoc (fs : List (ByteArray × ByteArray)) (k c v : ByteArray) :
    firstVal (fs ++ [(c, v)]) k = (if foundIn fs k = true then firstVal fs k else if c = k then .string v else .string ⟨#[]⟩) := by
  unfold firstVal
  by_cases hf : foundIn fs k = true
  · rw [if_pos hf]
    have h := (found_vals fs k).1 hf
    have e : valsOf (fs ++ [(c, v)]) k = valsOf fs k ++ valsOf [(c, v)] k := by simp [valsOf]
    rw [e]
    cases hv : valsOf fs k with
    | nil => exact absurd hv h
    | cons x r => rfl
  · rw [if_neg hf]
    have h : valsOf fs k = [] := by
      by_cases h : valsOf fs k = []
      · exact h
      · exact absurd ((found_vals fs k).2 h) hf
    by_cases hc : c = k
    · subst hc
      rw [valsOf_snoc_same, h, if_pos rfl]; rfl
    · rw [valsOf_snoc_other _ _ _ _ hc, h, if_neg hc]; rfl

theorem found_snoc (fs : List (ByteArray × ByteArray)) (k c v : ByteArray) : foundIn (fs ++ [(c, v)]) k = (foundIn fs k || decide (c = k)) := by simp [foundIn]

theorem firstVal_none (fs : List (ByteArray × ByteArray)) (k : ByteArray) (h : foundIn fs k = false) : firstVal fs k = .string ⟨#[]⟩ := by
  have h1 : valsOf fs k = [] := by
    by_cases h1 : valsOf fs k = []
    · exact h1
    · rw [(found_vals fs k).2 h1] at h; cases h
  unfold firstVal; rw [h1]; rfl

theorem fRow_owned {w : World} {base n g cap : Nat} {fs : List (ByteArray × ByteArray)} (h : w.ownsRow base 30 2 (.slice (some ⟨g, 0, none⟩) n cap) n (flat fs)) : FRow w g fs := by
  intro i p hp
  have h2 := flat_get fs i p hp
  have hc := h.cells (g := g) rfl
  have a1 := hc _ _ h2.1
  have a2 := hc _ _ h2.2
  have e : ∀ j, (⟨g, 0, none⟩ : Addr).add j = ⟨g, j, none⟩ := fun j => by unfold Addr.add; split <;> simp_all
  rw [e] at a1 a2
  exact ⟨a1, a2⟩

theorem infoField : (Try.prog.info? 30).map (fun i => (i.zero, i.size, i.bytes)) = some (some (.agg #[.string ⟨#[]⟩, .string ⟨#[]⟩]), 2, 32) := by kernel_rfl

end Go.Proofs.Ytmneehbhhofabaa
