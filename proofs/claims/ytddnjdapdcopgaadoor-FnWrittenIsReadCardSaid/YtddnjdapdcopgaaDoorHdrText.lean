/- Plain lists of bytes: names of fields, small letters, canonical names. No program in sight. -/
namespace Go.Proofs.YtddnjdapdcopgaaDoor

/-- A letter, a digit or a hyphen. -/
def nameC (c : UInt8) : Bool := (decide (48 ≤ c.toNat) && decide (c.toNat ≤ 57)) || (decide (97 ≤ c.toNat) && decide (c.toNat ≤ 122)) || (decide (65 ≤ c.toNat) && decide (c.toNat ≤ 90)) || decide (c.toNat = 45)
def isName (l : List UInt8) : Bool := l.all nameC && !l.isEmpty

def lowC (c : UInt8) : UInt8 := if 65 ≤ c.toNat ∧ c.toNat ≤ 90 then c + 32 else c
def lowerL (l : List UInt8) : List UInt8 := l.map lowC

/-- One byte of a canonical name; up: it is the first, or a hyphen stands ahead of it. -/
def canC (up : Bool) (c : UInt8) : UInt8 :=
  if up = true ∧ 97 ≤ c.toNat ∧ c.toNat ≤ 122 then c - 32 else if up = false ∧ 65 ≤ c.toNat ∧ c.toNat ≤ 90 then c + 32 else c
def canF : Bool → List UInt8 → List UInt8
  | _, [] => []
  | up, c :: r => canC up c :: canF (canC up c == 45) r
def canon (l : List UInt8) : List UInt8 := canF true l

theorem toNat_add32 (c : UInt8) (h : c.toNat ≤ 90) : (c + 32).toNat = c.toNat + 32 := by
  rw [UInt8.toNat_add]; have : (32 : UInt8).toNat = 32 := rfl; omega
theorem toNat_sub32 (c : UInt8) (h : 97 ≤ c.toNat) : (c - 32).toNat = c.toNat - 32 := by
  have h32 : (32 : UInt8).toNat = 32 := rfl
  rw [UInt8.toNat_sub_of_le]
  · rfl
  · rw [UInt8.le_iff_toNat_le]; omega

theorem lowC_toNat (c : UInt8) : (lowC c).toNat = if 65 ≤ c.toNat ∧ c.toNat ≤ 90 then c.toNat + 32 else c.toNat := by
  unfold lowC
  split
  · rename_i h; exact toNat_add32 c h.2
  · rfl

theorem canC_toNat (up : Bool) (c : UInt8) : (canC up c).toNat = if up = true ∧ 97 ≤ c.toNat ∧ c.toNat ≤ 122 then c.toNat - 32 else if up = false ∧ 65 ≤ c.toNat ∧ c.toNat ≤ 90 then c.toNat + 32 else c.toNat := by
  unfold canC
  split
  · rename_i h; exact toNat_sub32 c h.2.1
  · split
    · rename_i h; exact toNat_add32 c h.2.2
    · rfl

theorem canC_low (up : Bool) (c : UInt8) : canC up (lowC c) = canC up c := by
  apply UInt8.toNat_inj.1
  rw [canC_toNat, canC_toNat, lowC_toNat]
  cases up <;> simp <;> repeat' split
  all_goals omega

theorem canF_lower : ∀ (l : List UInt8) (up : Bool), canF up (lowerL l) = canF up l
  | [], _ => rfl
  | c :: r, up => by
    show canC up (lowC c) :: canF (canC up (lowC c) == 45) (lowerL r) = _
    rw [canC_low, canF_lower r]
    rfl

theorem canF_length : ∀ (l : List UInt8) (up : Bool), (canF up l).length = l.length
  | [], _ => rfl
  | c :: r, up => by simp [canF, canF_length r]

/-- The flag at place k. -/
def flagAt (up : Bool) (o : List UInt8) (k : Nat) : Bool := if k = 0 then up else o[k - 1]? == some 45

theorem canF_get : ∀ (l : List UInt8) (up : Bool) (k : Nat) (c : UInt8), l[k]? = some c → (canF up l)[k]? = some (canC (flagAt up (canF up l) k) c)
  | [], _, k, c, h => by simp at h
  | x :: r, up, 0, c, h => by
    simp at h; subst h; rfl
  | x :: r, up, k + 1, c, h => by
    have h1 : r[k]? = some c := by simpa using h
    have ih := canF_get r (canC up x == 45) k c h1
    show (canF (canC up x == 45) r)[k]? = _
    rw [ih]
    congr 2
    unfold flagAt
    cases k with
    | zero => simp [canF]
    | succ k => simp [canF]

theorem canF_next (l : List UInt8) (up : Bool) (k : Nat) (c : UInt8) (h : l[k]? = some c) :
    flagAt up (canF up l) (k + 1) = (canC (flagAt up (canF up l) k) c == 45) := by
  have := canF_get l up k c h
  show (if k + 1 = 0 then up else (canF up l)[k + 1 - 1]? == some 45) = _
  simp [this]

/-- What a row of bytes holds when its first k bytes have been written anew. -/
def mix (o l : List UInt8) (k : Nat) : List UInt8 := o.take k ++ l.drop k

theorem mix_zero (o l : List UInt8) : mix o l 0 = l := by simp [mix]
theorem mix_all (o l : List UInt8) (n : Nat) (ho : o.length = n) (hl : l.length = n) : mix o l n = o := by
  unfold mix
  rw [List.take_of_length_le (by omega), List.drop_eq_nil_of_le (by omega), List.append_nil]
theorem mix_length (o l : List UInt8) (k : Nat) (hk : k ≤ l.length) (ho : o.length = l.length) : (mix o l k).length = l.length := by
  simp [mix]; omega
theorem mix_at (o l : List UInt8) (k : Nat) (hk : k < l.length) (ho : o.length = l.length) : (mix o l k)[k]? = l[k]? := by
  unfold mix
  rw [List.getElem?_append_right (by simp; omega)]
  simp
  congr 1
  omega
theorem mix_before (o l : List UInt8) (k : Nat) (hk : k < l.length) (ho : o.length = l.length) (h0 : 0 < k) : (mix o l k)[k - 1]? = o[k - 1]? := by
  unfold mix
  rw [List.getElem?_append_left (by simp; omega), List.getElem?_take, if_pos (by omega)]
theorem mix_set (o l : List UInt8) (k : Nat) (hk : k < l.length) (ho : o.length = l.length) (x : UInt8) (hx : o[k]? = some x) : (mix o l k).set k x = mix o l (k + 1) := by
  unfold mix
  have h1 : l.drop k = l[k] :: l.drop (k + 1) := List.drop_eq_getElem_cons hk
  have h2 : o.take (k + 1) = o.take k ++ [x] := by
    rw [List.take_add_one, hx]; rfl
  have h3 : (o.take k).length = k := by simp; omega
  rw [h2, List.set_append_right _ _ (by omega), h3, Nat.sub_self, h1, List.set_cons_zero, List.append_assoc]
  rfl
theorem mix_keep (o l : List UInt8) (k : Nat) (hk : k < l.length) (ho : o.length = l.length) (x : UInt8) (hx : o[k]? = some x) (hl : l[k]? = some x) : mix o l (k + 1) = mix o l k := by
  rw [← mix_set o l k hk ho x hx]
  apply List.ext_getElem?
  intro i
  by_cases hi : i = k
  · subst hi
    rw [List.getElem?_set_self (by rw [mix_length o l i (by omega) ho]; exact hk), mix_at o l i hk ho, hl]
  · rw [List.getElem?_set_ne (by omega)]

theorem lowerL_get (l : List UInt8) (k : Nat) (c : UInt8) (h : l[k]? = some c) : (lowerL l)[k]? = some (lowC c) := by
  simp [lowerL, h]

theorem lower_not_great (l : List UInt8) (k : Nat) (c : UInt8) (h : (lowerL l)[k]? = some c) : ¬ (65 ≤ c.toNat ∧ c.toNat ≤ 90) := by
  simp only [lowerL, List.getElem?_map, Option.map_eq_some_iff] at h
  obtain ⟨x, _, rfl⟩ := h
  rw [lowC_toNat]
  split <;> omega

end Go.Proofs.YtddnjdapdcopgaaDoor
