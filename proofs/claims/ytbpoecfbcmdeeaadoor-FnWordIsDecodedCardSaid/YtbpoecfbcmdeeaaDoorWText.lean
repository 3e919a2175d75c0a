/- Encoded words, plainly: the texts of Q and B, the charsets, a word. No program in sight. -/
import Derived.Test.YtbpoecfbcmdeeaaDoorUtf
import Derived.Test.YtbpoecfbcmdeeaaDoorHdrText
namespace Go.Proofs.YtbpoecfbcmdeeaaDoor
open Go.Lib

/-- A hexadecimal digit, a great letter beyond 9. -/
def hexV (c : UInt8) : Option Nat :=
  if 48 ≤ c.toNat ∧ c.toNat ≤ 57 then some (c.toNat - 48) else if 65 ≤ c.toNat ∧ c.toNat ≤ 70 then some (c.toNat - 55) else none
theorem hexV_lt (c : UInt8) (x : Nat) (h : hexV c = some x) : x < 16 := by
  unfold hexV at h
  split at h
  · have := Option.some.inj h; omega
  · split at h
    · have := Option.some.inj h; omega
    · cases h

def okQ (c : UInt8) : Bool := decide (32 < c.toNat) && decide (c.toNat < 127)

/-- The bytes of a text of Q. -/
def unqL : List UInt8 → Option (List UInt8)
  | [] => some []
  | c :: r =>
    if c = 95 then (unqL r).map (32 :: ·)
    else if c = 61 then
      if 2 ≤ r.length then
        (hexV (r.getD 0 0)).bind fun x => (hexV (r.getD 1 0)).bind fun y => (unqL (r.drop 2)).map (UInt8.ofNat (16 * x + y) :: ·)
      else none
    else if okQ c then (unqL r).map (c :: ·) else none
  termination_by l => l.length
  decreasing_by all_goals (simp; try omega)

theorem unqL_nil : unqL [] = some [] := by rw [unqL]
theorem unqL_under (r : List UInt8) : unqL (95 :: r) = (unqL r).map (32 :: ·) := by rw [unqL, if_pos rfl]
theorem unqL_short (r : List UInt8) (h : r.length < 2) : unqL (61 :: r) = none := by
  rw [unqL, if_neg (by decide), if_pos rfl, if_neg (by omega)]
theorem unqL_hex (a b : UInt8) (r : List UInt8) (x y : Nat) (hx : hexV a = some x) (hy : hexV b = some y) : unqL (61 :: a :: b :: r) = (unqL r).map (UInt8.ofNat (16 * x + y) :: ·) := by
  rw [unqL, if_neg (by decide), if_pos rfl, if_pos (by simp)]
  simp [hx, hy]
theorem unqL_nohex (a b : UInt8) (r : List UInt8) (h : hexV a = none ∨ hexV b = none) : unqL (61 :: a :: b :: r) = none := by
  rw [unqL, if_neg (by decide), if_pos rfl, if_pos (by simp)]
  rcases h with h | h
  · simp [h]
  · simp [h]
theorem unqL_plain (c : UInt8) (r : List UInt8) (h1 : c ≠ 95) (h2 : c ≠ 61) (h : okQ c = true) : unqL (c :: r) = (unqL r).map (c :: ·) := by
  rw [unqL, if_neg h1, if_neg h2, if_pos h]
theorem unqL_other (c : UInt8) (r : List UInt8) (h1 : c ≠ 95) (h2 : c ≠ 61) (h : okQ c = false) : unqL (c :: r) = none := by
  rw [unqL, if_neg h1, if_neg h2, if_neg (by simp [h])]

/-- A digit of base64. -/
def b64V (c : UInt8) : Option Nat :=
  if 65 ≤ c.toNat ∧ c.toNat ≤ 90 then some (c.toNat - 65)
  else if 97 ≤ c.toNat ∧ c.toNat ≤ 122 then some (c.toNat - 71)
  else if 48 ≤ c.toNat ∧ c.toNat ≤ 57 then some (c.toNat + 4)
  else if c = 43 then some 62 else if c = 47 then some 63 else none
theorem b64V_lt (c : UInt8) (x : Nat) (h : b64V c = some x) : x < 64 := by
  unfold b64V at h
  repeat' split at h
  all_goals first | (have := Option.some.inj h; omega) | cases h

def three (x : Nat) : List UInt8 := [UInt8.ofNat (x / 65536), UInt8.ofNat (x / 256 % 256), UInt8.ofNat (x % 256)]

/-- The bytes of four digits, the last ones (last: no more digits behind them) perhaps filled up. -/
def quadL (c0 c1 c2 c3 : UInt8) (last : Bool) : Option (List UInt8) :=
  match b64V c0, b64V c1 with
  | some a, some b =>
    match b64V c2, b64V c3 with
    | some c, some d => some (three (a * 262144 + b * 4096 + c * 64 + d))
    | some c, none => if c3 = 61 ∧ last = true ∧ c % 4 = 0 then some ((three (a * 262144 + b * 4096 + c * 64)).take 2) else none
    | none, _ => if c2 = 61 ∧ c3 = 61 ∧ last = true ∧ b % 16 = 0 then some ((three (a * 262144 + b * 4096)).take 1) else none
  | _, _ => none

/-- The bytes of a text of base64. -/
def unbL : List UInt8 → Option (List UInt8)
  | [] => some []
  | c0 :: c1 :: c2 :: c3 :: r => (quadL c0 c1 c2 c3 r.isEmpty).bind fun x => (unbL r).map (x ++ ·)
  | _ => none

/-- A byte of ISO-8859-1 as UTF-8. -/
def latinC (c : UInt8) : List UInt8 := if c.toNat < 128 then [c] else [(0xC0 : UInt8) ||| (c >>> 6), (0x80 : UInt8) ||| (c &&& 0x3F)]
def latinL (l : List UInt8) : List UInt8 := l.flatMap latinC

def utfN : List UInt8 := [117, 116, 102, 45, 56]
def isoN : List UInt8 := [105, 115, 111, 45, 56, 56, 53, 57, 45, 49]
def ascN : List UInt8 := [117, 115, 45, 97, 115, 99, 105, 105]

/-- The text of bytes of a charset. -/
def convL (cs b : List UInt8) : Option (List UInt8) :=
  if lowerL cs = utfN then (if validD b then some b else none)
  else if lowerL cs = isoN then some (latinL b)
  else if lowerL cs = ascN then (if b.all (fun c => decide (c.toNat < 128)) then some b else none)
  else none

/-- The texts between question marks. -/
def splitQ : List UInt8 → List (List UInt8)
  | [] => [[]]
  | c :: r => if c = 63 then [] :: splitQ r else match splitQ r with | [] => [[c]] | p :: ps => (c :: p) :: ps

theorem splitQ_ne : ∀ l, splitQ l ≠ []
  | [] => by simp [splitQ]
  | c :: r => by
    unfold splitQ
    split
    · simp
    · cases h : splitQ r <;> simp

theorem splitQ_none (a : List UInt8) (h : ∀ c ∈ a, c ≠ 63) : splitQ a = [a] := by
  induction a with
  | nil => rfl
  | cons c r ih =>
    rw [splitQ, if_neg (h c (by simp)), ih (fun x hx => h x (by simp [hx]))]
theorem splitQ_app (a r : List UInt8) (h : ∀ c ∈ a, c ≠ 63) : splitQ (a ++ 63 :: r) = a :: splitQ r := by
  induction a with
  | nil => rw [List.nil_append, splitQ, if_pos rfl]
  | cons c s ih =>
    rw [List.cons_append, splitQ, if_neg (h c (by simp)), ih (fun x hx => h x (by simp [hx]))]

/-- The inside of a text between question marks, and what it is made of. -/
theorem splitQ_back : ∀ l a ps, splitQ l = a :: ps → (∀ c ∈ a, c ≠ 63) ∧ ((ps = [] ∧ l = a) ∨ (∃ r, l = a ++ 63 :: r ∧ splitQ r = ps))
  | [], a, ps, h => by
    simp [splitQ] at h
    obtain ⟨rfl, rfl⟩ := h
    exact ⟨by simp, .inl ⟨rfl, rfl⟩⟩
  | c :: r, a, ps, h => by
    unfold splitQ at h
    split at h
    · rename_i hc
      simp at h
      obtain ⟨rfl, rfl⟩ := h
      exact ⟨by simp, .inr ⟨r, by rw [hc]; rfl, rfl⟩⟩
    · rename_i hc
      cases hs : splitQ r with
      | nil => exact absurd hs (splitQ_ne r)
      | cons p qs =>
        rw [hs] at h
        simp at h
        obtain ⟨rfl, rfl⟩ := h
        obtain ⟨h1, h2⟩ := splitQ_back r p qs hs
        refine ⟨by intro x hx; rcases List.mem_cons.1 hx with e | e; exact e ▸ hc; exact h1 x e, ?_⟩
        rcases h2 with ⟨h2, h3⟩ | ⟨t, h2, h3⟩
        · exact .inl ⟨h2, by rw [h3]⟩
        · exact .inr ⟨t, by rw [h2]; rfl, h3⟩

def wayL (e tx : List UInt8) : Option (List UInt8) :=
  if e = [81] ∨ e = [113] then unqL tx else if e = [66] ∨ e = [98] then unbL tx else none

def partsL : List (List UInt8) → Option (List UInt8)
  | [cs, e, tx] => if tx = [] then none else (wayL e tx).bind (convL cs)
  | _ => none

/-- What an encoded word means. -/
def decodedL (l : List UInt8) : Option (List UInt8) :=
  if l.length < 8 ∨ 75 < l.length ∨ l.take 2 ≠ [61, 63] ∨ l.drop (l.length - 2) ≠ [63, 61] then none
  else partsL (splitQ ((l.drop 2).take (l.length - 4)))

/-- A word that means a text. -/
structure Coded (l cs : List UInt8) (e : UInt8) (tx b t : List UInt8) : Prop where
  text : l = 61 :: 63 :: (cs ++ 63 :: e :: 63 :: (tx ++ [63, 61]))
  nocs : ∀ c ∈ cs, c ≠ 63
  noe : e = 81 ∨ e = 113 ∨ e = 66 ∨ e = 98
  notx : ∀ c ∈ tx, c ≠ 63
  ne : tx ≠ []
  way : wayL [e] tx = some b
  conv : convL cs b = some t
  len : l.length ≤ 75

theorem take2_drop {l : List UInt8} (h8 : 8 ≤ l.length) (h1 : l.take 2 = [61, 63]) (h2 : l.drop (l.length - 2) = [63, 61]) : l = 61 :: 63 :: ((l.drop 2).take (l.length - 4) ++ [63, 61]) := by
  have e1 : l = l.take 2 ++ l.drop 2 := (List.take_append_drop 2 l).symm
  have e2 : l.drop 2 = (l.drop 2).take (l.length - 4) ++ (l.drop 2).drop (l.length - 4) := (List.take_append_drop _ _).symm
  have e3 : (l.drop 2).drop (l.length - 4) = [63, 61] := by
    rw [List.drop_drop, show 2 + (l.length - 4) = l.length - 2 by omega, h2]
  rw [h1] at e1
  rw [e3] at e2
  rw [e2] at e1
  exact e1

theorem decodedL_coded (l t : List UInt8) (h : decodedL l = some t) : ∃ cs e tx b, Coded l cs e tx b t := by
  unfold decodedL at h
  split at h
  · cases h
  · rename_i hc
    have h8 : 8 ≤ l.length := by omega
    have h75 : l.length ≤ 75 := by omega
    have ht2 : l.take 2 = [61, 63] := Classical.byContradiction fun hn => hc (.inr (.inr (.inl hn)))
    have hd2 : l.drop (l.length - 2) = [63, 61] := Classical.byContradiction fun hn => hc (.inr (.inr (.inr hn)))
    have hl := take2_drop h8 ht2 hd2
    generalize (l.drop 2).take (l.length - 4) = inn at h hl
    unfold partsL at h
    split at h
    · rename_i cs e tx hs
      obtain ⟨n1, k1⟩ := splitQ_back _ _ _ hs
      rcases k1 with ⟨k1, _⟩ | ⟨r1, k1, s1⟩
      · cases k1
      obtain ⟨n2, k2⟩ := splitQ_back _ _ _ s1
      rcases k2 with ⟨k2, _⟩ | ⟨r2, k2, s2⟩
      · cases k2
      obtain ⟨n3, k3⟩ := splitQ_back _ _ _ s2
      rcases k3 with ⟨_, k3⟩ | ⟨r3, _, s3⟩
      · split at h
        · cases h
        · rename_i hne
          cases hw : wayL e tx with
          | none => rw [hw] at h; cases h
          | some b =>
            rw [hw] at h
            have hconv : convL cs b = some t := h
            have he : ∃ x, e = [x] ∧ (x = 81 ∨ x = 113 ∨ x = 66 ∨ x = 98) := by
              unfold wayL at hw
              split at hw
              · rename_i h'
                rcases h' with h' | h'
                · exact ⟨81, h', .inl rfl⟩
                · exact ⟨113, h', .inr (.inl rfl)⟩
              · split at hw
                · rename_i h'
                  rcases h' with h' | h'
                  · exact ⟨66, h', .inr (.inr (.inl rfl))⟩
                  · exact ⟨98, h', .inr (.inr (.inr rfl))⟩
                · cases hw
            obtain ⟨x, rfl, hx⟩ := he
            refine ⟨cs, x, tx, b, ⟨?_, n1, hx, n3, hne, hw, hconv, h75⟩⟩
            rw [hl, k1, k2, k3]
            simp
      · exact absurd s3 (splitQ_ne r3)
    · cases h
end Go.Proofs.YtbpoecfbcmdeeaaDoor
