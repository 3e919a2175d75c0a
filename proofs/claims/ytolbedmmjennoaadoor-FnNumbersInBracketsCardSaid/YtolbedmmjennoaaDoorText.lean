/- Plain lists of bytes: spaces, comments (RFC 5322), and what the parser's skipping does to them. No program in sight. -/
import Derived.Lib.OthersKept
namespace Go.Proofs.YtolbedmmjennoaaDoor
open Go

/-- A space or a tab. -/
def isWs (c : UInt8) : Bool := c == 32 || c == 9

/-- Without the spaces and tabs in front. -/
def trimL : List UInt8 → List UInt8
  | [] => []
  | c :: r => if isWs c then trimL r else c :: r

/-- What the parser's comment reader leaves, at depth d (esc: a backslash has just been read), and whether the comment ended. -/
def comment : List UInt8 → Nat → Bool → List UInt8 × Bool
  | [], d, _ => ([], d == 0)
  | c :: r, d, esc =>
    if d = 0 then (c :: r, true)
    else if esc then comment r d false
    else if c = 92 then comment r d true
    else if c = 40 then comment r (d + 1) false
    else if c = 41 then comment r (d - 1) false
    else comment r d false

/-- The reference's skipping, at depth d. -/
def skipF : List UInt8 → Nat → Bool → List UInt8 × Bool
  | [], d, _ => ([], d == 0)
  | c :: r, d, esc =>
    if esc then skipF r d false
    else if c = 40 then skipF r (d + 1) false
    else if 0 < d ∧ c = 41 then skipF r (d - 1) false
    else if 0 < d ∧ c = 92 then skipF r d true
    else if d = 0 ∧ c ≠ 32 ∧ c ≠ 9 then (c :: r, true)
    else skipF r d false

theorem comment_zero (l : List UInt8) (e : Bool) : comment l 0 e = (l, true) := by
  cases l <;> simp [comment]

theorem comment_skip : ∀ (l : List UInt8) (d : Nat) (e : Bool),
    skipF l (d + 1) e = if (comment l (d + 1) e).2 then skipF (comment l (d + 1) e).1 0 false else ([], false)
  | [], d, e => by simp [skipF, comment]
  | c :: r, d, e => by
    rw [skipF, comment]
    cases e with
    | true => simpa using comment_skip r d false
    | false =>
      by_cases h40 : c = 40
      · subst h40
        simpa using comment_skip r (d + 1) false
      · by_cases h41 : c = 41
        · subst h41
          cases d with
          | zero => simp [comment_zero]
          | succ d => simpa using comment_skip r d false
        · by_cases h92 : c = 92
          · subst h92
            simpa using comment_skip r d true
          · simp [h40, h41, h92]
            simpa using comment_skip r d false

theorem skip_ws (c : UInt8) (r : List UInt8) (h : isWs c = true) : skipF (c :: r) 0 false = skipF r 0 false := by
  simp [isWs] at h
  rcases h with rfl | rfl <;> simp [skipF]

theorem skip_trim : ∀ l : List UInt8, skipF (trimL l) 0 false = skipF l 0 false
  | [] => rfl
  | c :: r => by
    unfold trimL
    by_cases h : isWs c = true
    · rw [if_pos h, skip_ws c r h]; exact skip_trim r
    · rw [if_neg h]

theorem skip_open (r : List UInt8) : skipF (40 :: r) 0 false = if (comment r 1 false).2 then skipF (comment r 1 false).1 0 false else ([], false) := by
  rw [skipF]
  exact comment_skip r 0 false

theorem skip_stop (c : UInt8) (r : List UInt8) (h : c ≠ 40) (hw : isWs c = false) : skipF (c :: r) 0 false = (c :: r, true) := by
  simp [isWs] at hw
  simp [skipF, h, hw]

theorem trim_head (l : List UInt8) : ∀ c r, trimL l = c :: r → isWs c = false := by
  induction l with
  | nil => intro c r h; simp [trimL] at h
  | cons x l ih =>
    intro c r h
    unfold trimL at h
    by_cases hx : isWs x = true
    · rw [if_pos hx] at h; exact ih c r h
    · rw [if_neg hx] at h
      simp at h
      obtain ⟨rfl, _⟩ := h
      simpa using hx

theorem trim_length (l : List UInt8) : (trimL l).length ≤ l.length := by
  induction l with
  | nil => simp [trimL]
  | cons x l ih =>
    unfold trimL
    split
    · simp; omega
    · exact Nat.le_refl _

/-- If the first k bytes are spaces or tabs, the rest trims alike. -/
theorem trim_drop (l : List UInt8) : ∀ k, (∀ i (h : i < l.length), i < k → isWs l[i] = true) → trimL (l.drop k) = trimL l := by
  induction l with
  | nil => intro k _; simp
  | cons x l ih =>
    intro k h
    cases k with
    | zero => rfl
    | succ k =>
      have h0 : isWs x = true := h 0 (by simp) (by omega)
      rw [List.drop_succ_cons, trimL, if_pos h0]
      refine ih k (fun i hi hk => ?_)
      have := h (i + 1) (by simp; omega) (by omega)
      rw [List.getElem_cons_succ] at this
      exact this

theorem comment_length : ∀ (l : List UInt8) (d : Nat) (e : Bool), (comment l d e).1.length ≤ l.length
  | [], d, e => by simp [comment]
  | c :: r, d, e => by
    rw [comment]
    split
    · exact Nat.le_refl _
    · have h := fun d e => comment_length r d e
      repeat' split
      all_goals (have h1 := h d true; have h2 := h d false; have h3 := h (d + 1) false; have h4 := h (d - 1) false; simp; omega)

end Go.Proofs.YtolbedmmjennoaaDoor
