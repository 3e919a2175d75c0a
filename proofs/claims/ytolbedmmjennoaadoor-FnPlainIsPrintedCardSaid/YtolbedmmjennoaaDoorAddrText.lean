/- An address's text, plainly: where its sign @ stands; where its points stand. -/
import Derived.Test.YtolbedmmjennoaaDoorDotLaw
import Derived.Lib.LastIndexByte
namespace Go.Proofs.YtolbedmmjennoaaDoor

theorem data_get (s : ByteArray) (j : Nat) (c : UInt8) (h : s.data.toList[j]? = some c) : s.data[j]! = c := by
  have h1 : s.data[j]? = some c := by rw [← Array.getElem?_toList]; exact h
  rw [Array.getElem!_eq_getD, Array.getD_eq_getD_getElem?, h1]
  rfl

/-- The last sign @ of an address is the one between its parts. -/
theorem at_place (l d : ByteArray) (hd : dottedL d.data.toList = true) : Lib.lastIndexByte (l ++ ⟨#[64]⟩ ++ d) 64 = (l.size : Int) := by
  have hl : (l ++ ⟨#[64]⟩ ++ d).data.toList = l.data.toList ++ 64 :: d.data.toList := by
    rw [append_list, append_list]; simp
  have hsz : (l ++ ⟨#[64]⟩ ++ d).size = l.size + 1 + d.size := by
    simp only [ByteArray.size_append]; rfl
  have hat : (l ++ ⟨#[64]⟩ ++ d).data[l.size]! = 64 := by
    apply data_get
    rw [hl, size_of_list l, List.getElem?_append_right (Nat.le_refl _)]
    simp
  have hbehind : ∀ j, l.size < j → j < (l ++ ⟨#[64]⟩ ++ d).size → (((l ++ ⟨#[64]⟩ ++ d).data[j]!).toNat : Int) ≠ 64 := by
    intro j h1 h2 e
    have hj : j - l.size - 1 < d.data.toList.length := by rw [← size_of_list]; omega
    obtain ⟨c, hc⟩ : ∃ c, d.data.toList[j - l.size - 1]? = some c := ⟨_, List.getElem?_eq_getElem hj⟩
    have hm : j - l.data.toList.length = (j - l.size - 1) + 1 := by rw [← size_of_list]; omega
    have hg : (l ++ ⟨#[64]⟩ ++ d).data.toList[j]? = some c := by
      rw [hl, List.getElem?_append_right (by rw [← size_of_list]; omega), hm, List.getElem?_cons_succ]
      exact hc
    rw [data_get _ _ _ hg] at e
    have hok := (dotStep_ok _ true hd _ (List.mem_of_getElem? hc)).1
    have : c = 64 := UInt8.toNat_inj.1 (by have : (64 : UInt8).toNat = 64 := rfl; omega)
    rw [this] at hok
    exact absurd hok (by decide)
  rcases Lib.lastIndexByte_spec (l ++ ⟨#[64]⟩ ++ d) 64 with ⟨_, h⟩ | ⟨i, h1, h2, h3, h4⟩
  · exact absurd (by rw [hat]; rfl) (h l.size (by omega))
  · rw [h2]
    rcases Nat.lt_trichotomy i l.size with h | h | h
    · exact absurd (by rw [hat]; rfl) (h4 l.size h (by omega))
    · rw [h]
    · exact absurd h3 (hbehind i h h1)

/-- Where points stand. -/
theorem dot_place : ∀ (t : List UInt8) (b : Bool), dotStep b t = true → ∀ k, t[k]? = some 46 → (k = 0 → b = false) ∧ (∀ j, k = j + 1 → t[j]? ≠ some 46) ∧ k + 1 < t.length
  | [], _, _, k, hk => by simp at hk
  | c :: r, b, h, k, hk => by
    cases k with
    | zero =>
      have hc : c = 46 := by simpa using hk
      rcases dotStep_cons b c r h with ⟨_, h2, h3⟩ | ⟨h1, _⟩
      · refine ⟨fun _ => h2, fun j hj => by omega, ?_⟩
        cases r with
        | nil => cases h3
        | cons x y => simp
      · exact absurd hc h1
    | succ k =>
      have hk' : r[k]? = some 46 := by simpa using hk
      rcases dotStep_cons b c r h with ⟨h1, _, h3⟩ | ⟨h1, _, _, h3⟩
      · have ih := dot_place r true h3 k hk'
        refine ⟨fun e => by omega, fun j hj => ?_, by have := ih.2.2; simp; omega⟩
        have : j = k := by omega
        subst this
        cases j with
        | zero => exact absurd (ih.1 rfl) (by simp)
        | succ j => simpa using ih.2.1 j rfl
      · have ih := dot_place r false h3 k hk'
        refine ⟨fun e => by omega, fun j hj => ?_, by have := ih.2.2; simp; omega⟩
        have : j = k := by omega
        subst this
        cases j with
        | zero => simpa using h1
        | succ j => simpa using ih.2.1 j rfl

/-- The part ahead of the sign @, and the part behind it. -/
theorem addr_local (l d : ByteArray) : (l ++ ⟨#[64]⟩ ++ d).extract 0 l.size = l := by
  apply ByteArray.ext
  apply Array.ext'
  rw [Lib.extract_data, append_list, append_list, List.drop_zero, Nat.sub_zero, List.append_assoc, size_of_list, List.take_left]
theorem addr_domain (l d : ByteArray) : (l ++ ⟨#[64]⟩ ++ d).extract (l.size + 1) (l ++ ⟨#[64]⟩ ++ d).size = d := by
  rw [from_mkB, append_list, append_list, List.append_assoc, size_of_list, ← List.drop_drop, List.drop_left]
  exact list_mkB d
end Go.Proofs.YtolbedmmjennoaaDoor
