/- A text of base64, digit by digit, plainly. No program in sight. -/
import Derived.Test.YtbpoecfbcmdeeaaDoorWText
namespace Go.Proofs.YtbpoecfbcmdeeaaDoor
open Go.Lib

/-- What comes of the digits from the k-th on; x: the number so far; n: how many bytes there will be. -/
def contQ (c : Nat → UInt8) (last : Bool) : Nat → Nat → Nat → Nat → Option (List UInt8)
  | 0, _, x, n => if x % 2 ^ (24 - 8 * n) = 0 then some ((three x).take n) else none
  | f + 1, k, x, n =>
    match b64V (c k) with
    | some d => contQ c last f (k + 1) (x * 64 + d) n
    | none => if c k = 61 ∧ last = true ∧ 2 ≤ k ∧ (k = 2 → c 3 = 61) then contQ c last f (k + 1) (x * 64) (n - 1) else none

theorem b64V_61 : b64V 61 = none := by decide

theorem contQ_quad (c : Nat → UInt8) (last : Bool) : contQ c last 4 0 0 3 = quadL (c 0) (c 1) (c 2) (c 3) last := by
  unfold quadL
  simp only [contQ]
  cases h0 : b64V (c 0) with
  | none => simp
  | some a =>
    cases h1 : b64V (c 1) with
    | none => simp
    | some b =>
      have hb := b64V_lt _ _ h1
      cases h2 : b64V (c 2) with
      | none =>
        simp only [Nat.zero_add, Nat.zero_mul]
        by_cases hp : c 2 = 61 ∧ last = true ∧ c 3 = 61
        · obtain ⟨p1, p2, p3⟩ := hp
          have h3 : b64V (c 3) = none := by rw [p3]; exact b64V_61
          simp only [h3]
          by_cases hm : b % 16 = 0
          · rw [if_pos ⟨p1, p2, by omega, fun _ => p3⟩, if_pos ⟨p3, p2, by omega, fun h => by omega⟩, if_pos (by show _ % 2 ^ 16 = 0; omega), if_pos ⟨p1, p3, p2, hm⟩]
            congr 3; omega
          · rw [if_pos ⟨p1, p2, by omega, fun _ => p3⟩, if_pos ⟨p3, p2, by omega, fun h => by omega⟩, if_neg (by show ¬ _ % 2 ^ 16 = 0; omega), if_neg (fun h => hm h.2.2.2)]
        · rw [if_neg, if_neg]
          · exact fun h => hp ⟨h.1, h.2.2.1, h.2.1⟩
          · exact fun h => hp ⟨h.1, h.2.1, h.2.2.2 trivial⟩
      | some cc =>
        cases h3 : b64V (c 3) with
        | none =>
          simp only [Nat.zero_add, Nat.zero_mul]
          by_cases hp : c 3 = 61 ∧ last = true
          · obtain ⟨p1, p2⟩ := hp
            by_cases hm : cc % 4 = 0
            · rw [if_pos ⟨p1, p2, by omega, fun h => by omega⟩, if_pos (by show _ % 2 ^ 8 = 0; omega), if_pos ⟨p1, p2, hm⟩]
              congr 3; omega
            · rw [if_pos ⟨p1, p2, by omega, fun h => by omega⟩, if_neg (by show ¬ _ % 2 ^ 8 = 0; omega), if_neg (fun h => hm h.2.2)]
          · rw [if_neg (fun h => hp ⟨h.1, h.2.1⟩), if_neg (fun h => hp ⟨h.1, h.2.1⟩)]
        | some d =>
          simp only [Nat.zero_add, Nat.zero_mul]
          rw [if_pos (by show _ % 2 ^ 0 = 0; omega)]
          have : ∀ x, (three x).take 3 = three x := fun x => rfl
          rw [this]
          congr 2; omega

/-- The digits. -/
def digB64 : ByteArray := ⟨#[65, 66, 67, 68, 69, 70, 71, 72, 73, 74, 75, 76, 77, 78, 79, 80, 81, 82, 83, 84, 85, 86, 87, 88, 89, 90, 97, 98, 99, 100, 101, 102, 103, 104, 105, 106, 107, 108, 109, 110, 111, 112, 113, 114, 115, 116, 117, 118, 119, 120, 121, 122, 48, 49, 50, 51, 52, 53, 54, 55, 56, 57, 43, 47]⟩
def digC (j : Nat) : UInt8 := digB64.data.toList.getD j 0
theorem dig_iff (j : Nat) (hj : j < 64) (c : UInt8) : digC j = c ↔ b64V c = some j := by
  have h : ∀ j : Fin 64, ∀ n : Fin 256, decide (digC j.val = UInt8.ofNat n.val) = decide (b64V (UInt8.ofNat n.val) = some j.val) := by decide +kernel
  have := h ⟨j, hj⟩ ⟨c.toNat, c.toNat_lt⟩
  simp only [UInt8.ofNat_toNat] at this
  exact decide_eq_decide.1 this

/-- The digit found among the first j. -/
def dI (c : UInt8) (j : Nat) : Int := match b64V c with | some d => if d < j then (d : Int) else -1 | none => -1
theorem dI_zero (c : UInt8) : dI c 0 = -1 := by
  unfold dI; split <;> simp
theorem dI_hit (c : UInt8) (j : Nat) (h : b64V c = some j) : dI c (j + 1) = (j : Int) := by
  unfold dI; rw [h]; simp
theorem dI_miss (c : UInt8) (j : Nat) (h : b64V c ≠ some j) : dI c (j + 1) = dI c j := by
  unfold dI
  cases hb : b64V c with
  | none => rfl
  | some d =>
    have : d ≠ j := fun e => h (by rw [hb, e])
    by_cases hd : d < j
    · simp [hd, show d < j + 1 by omega]
    · simp [hd, show ¬ d < j + 1 by omega]
theorem dI_some (c : UInt8) (d : Nat) (h : b64V c = some d) : dI c 64 = (d : Int) := by
  have := b64V_lt _ _ h
  unfold dI; rw [h]; simp [this]
theorem dI_none (c : UInt8) (h : b64V c = none) : dI c 64 = -1 := by
  unfold dI; rw [h]

theorem three_take (x t : Nat) (ht : t < 3) : (three x).take (t + 1) = (three x).take t ++ [UInt8.ofNat (x / 2 ^ (16 - 8 * t) % 256)] := by
  have e : ∀ n : Nat, UInt8.ofNat (n % 256) = UInt8.ofNat n := fun n => by
    apply UInt8.toNat_inj.1
    rw [UInt8.toNat_ofNat', UInt8.toNat_ofNat']
    omega
  match t, ht with
  | 0, _ => simp [three, e]
  | 1, _ => simp [three]
  | 2, _ => simp [three]
end Go.Proofs.YtbpoecfbcmdeeaaDoor
