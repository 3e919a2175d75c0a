/- Texts of UTF-8, rune by rune; what an atom's and a quoted string's signs are. No program in sight. -/
import Derived.Test.YtbpoecfbcmdeeaaDoorBase
import Derived.Lib.ValidLaws
import Derived.Lib.MapLaws
namespace Go.Proofs.YtbpoecfbcmdeeaaDoor
open Go.Lib

/-- The rune at the head of a text, and its width. -/
theorem utf_step (l : List UInt8) (hne : l ≠ []) (hv : validD l = true) : ¬ ((decodeL l).1 = 65533 ∧ (decodeL l).2 = 1) ∧ validD (l.drop (decodeL l).2) = true := by
  rw [validD_step l hne] at hv
  split at hv
  · cases hv
  · rename_i h; exact ⟨h, hv⟩

theorem decode_ascii_l (c : UInt8) (r : List UInt8) (h : c.toNat < 128) : decodeL (c :: r) = (c.toNat, 1) := decodeL_ascii c r h

theorem u8_ofInt (z : Int) (h0 : 0 ≤ z) (h1 : z < 256) : (z.toNat.toUInt8).toNat = z.toNat := by
  have : z.toNat < 256 := by omega
  show (UInt8.ofNat z.toNat).toNat = z.toNat
  rw [UInt8.toNat_ofNat']
  omega

/-- The bytes of a rune beyond ASCII are beyond ASCII. -/
theorem encode_high (r : Int) (h : 128 ≤ r) : ∀ b ∈ encodeRune r, 128 ≤ b.toNat := by
  intro b hb
  simp only [encodeRune, List.mem_map] at hb
  obtain ⟨z, hz, rfl⟩ := hb
  have hz0 := encodeRuneZ_byte r z hz
  rw [u8_ofInt z hz0.1 hz0.2]
  by_cases h1 : r ≤ 2047
  · rw [encodeRuneZ_two h h1] at hz
    simp at hz
    omega
  · by_cases h2 : (2048 ≤ r ∧ r < 55296) ∨ (57343 < r ∧ r ≤ 65535)
    · rw [encodeRuneZ_three h2] at hz
      simp at hz
      omega
    · by_cases h3 : 65536 ≤ r ∧ r ≤ 1114111
      · rw [encodeRuneZ_four h3.1 h3.2] at hz
        simp at hz
        omega
      · rw [encodeRuneZ_bad (by omega)] at hz
        simp at hz
        omega

/-- A rune whose lead byte is beyond ASCII is beyond ASCII. -/
theorem decode_high_l (c : UInt8) (r : List UInt8) (h : 128 ≤ c.toNat) : 128 ≤ (decodeL (c :: r)).1 := by
  have h1 := Go.decode_high (mkB (c :: r)) 0 (by rw [size_mkB]; simp) (by show 128 ≤ c.toNat; exact h)
  exact h1.1

/-- At a lead byte beyond ASCII: the whole rune's bytes are beyond ASCII. -/
theorem utf_high (c : UInt8) (r : List UInt8) (h : 128 ≤ c.toNat) (hv : validD (c :: r) = true) :
    (∀ b ∈ (c :: r).take (decodeL (c :: r)).2, 128 ≤ b.toNat) ∧ (decodeL (c :: r)).2 ≤ (c :: r).length ∧ 1 ≤ (decodeL (c :: r)).2 ∧ 128 ≤ (decodeL (c :: r)).1 := by
  have hs := utf_step _ (by simp) hv
  have hd := decode_high_l c r h
  refine ⟨?_, decodeL_le _ (by simp), decodeL_width _, hd⟩
  rw [← encode_decode _ (by simp) hs.1]
  exact encode_high _ (by omega)

/-! ### Classes of signs -/
def vcharI (r : Int) : Bool := (decide (33 ≤ r) && decide (r ≤ 126)) || decide (128 ≤ r)
def specialI (r : Int) : Bool := r == 40 || r == 41 || r == 60 || r == 62 || r == 91 || r == 93 || r == 58 || r == 59 || r == 64 || r == 92 || r == 44 || r == 34
/-- May the rune stand in an atom? dot: a point, too. -/
def atextI (r : Int) (dot : Bool) : Bool := if r = 46 then dot else if specialI r then false else vcharI r

/-- The signs of an atom that are no letters and digits. -/
def atomSigns : List UInt8 := [33, 35, 36, 37, 38, 39, 42, 43, 45, 47, 61, 63, 94, 95, 96, 123, 124, 125, 126]
/-- May the byte stand in an atom, by the reference? -/
def atomC (c : UInt8) : Bool := (decide (48 ≤ c.toNat) && decide (c.toNat ≤ 57)) || (decide (97 ≤ c.toNat) && decide (c.toNat ≤ 122)) || (decide (65 ≤ c.toNat) && decide (c.toNat ≤ 90)) || decide (128 ≤ c.toNat) || atomSigns.any (fun x => c == x)

theorem atext_atom : ∀ c : UInt8, c.toNat < 128 → atextI (c.toNat : Int) false = atomC c := by
  intro c hc
  have h : ∀ n : Fin 128, atextI ((n.val : Nat) : Int) false = atomC (UInt8.ofNat n.val) := by decide +kernel
  have h1 := h ⟨c.toNat, hc⟩
  rw [UInt8.ofNat_toNat] at h1
  exact h1

theorem atext_dot (r : Int) : atextI r true = (decide (r = 46) || atextI r false) := by
  unfold atextI
  by_cases h : r = 46 <;> simp [h]

theorem atext_high (r : Int) (dot : Bool) (h : 128 ≤ r) : atextI r dot = true := by
  unfold atextI
  rw [if_neg (by omega)]
  have h1 : specialI r = false := by
    simp [specialI]; omega
  rw [h1]
  simp [vcharI, h]

/-- May the byte stand in an atom with points? -/
def dotC (c : UInt8) : Bool := c == 46 || atomC c
def okC (dot : Bool) (c : UInt8) : Bool := if dot then dotC c else atomC c

theorem atext_ok (dot : Bool) (c : UInt8) (h : c.toNat < 128) : atextI (c.toNat : Int) dot = okC dot c := by
  cases dot with
  | false => exact atext_atom c h
  | true =>
    rw [atext_dot, atext_atom c h]
    show _ = (c == 46 || atomC c)
    congr 1
    rw [Bool.eq_iff_iff, decide_eq_true_eq, beq_iff_eq]
    constructor
    · intro e; apply UInt8.toNat_inj.1; have : (46 : UInt8).toNat = 46 := rfl; omega
    · intro e; rw [e]; rfl

theorem ok_high (dot : Bool) (c : UInt8) (h : 128 ≤ c.toNat) : okC dot c = true := by
  have : atomC c = true := by simp [atomC, h]
  cases dot <;> simp [okC, dotC, this]

/-- How many signs of an atom the text begins with. -/
def runLen (dot : Bool) : List UInt8 → Nat
  | [] => 0
  | c :: r => if okC dot c then runLen dot r + 1 else 0

theorem runLen_le (dot : Bool) : ∀ l : List UInt8, runLen dot l ≤ l.length
  | [] => Nat.le_refl _
  | c :: r => by
    have := runLen_le dot r
    unfold runLen
    split <;> simp <;> omega

theorem runLen_skip (dot : Bool) : ∀ (k : Nat) (l : List UInt8), k ≤ l.length → (∀ b ∈ l.take k, okC dot b = true) → runLen dot l = k + runLen dot (l.drop k)
  | 0, l, _, _ => by simp
  | k + 1, [], h, _ => by simp at h
  | k + 1, c :: r, h, ha => by
    have hc : okC dot c = true := ha c (by simp)
    have ih := runLen_skip dot k r (by simpa using h) (fun b hb => ha b (by simp [hb]))
    show (if okC dot c then runLen dot r + 1 else 0) = _
    rw [if_pos hc, ih]
    simp; omega

end Go.Proofs.YtbpoecfbcmdeeaaDoor
