/- What a message is by the reference, line by line, and that reading its header can come to nothing else. No program in sight. -/
import Derived.Test.YtddnjdapdcopgaaDoorHdL
namespace Go.Proofs.YtddnjdapdcopgaaDoor
open Go.RowKit

/-- A line, without its end, and what follows it. -/
def lineS (st : List UInt8) : Option (List UInt8 × List UInt8) := (brk st).map fun p => (chop p.1, p.2)

inductive MsgO where
  | good (parts : List (ByteArray × ByteArray)) (rest : List UInt8)
  | bad
/-- From the parts so far and the text that is still to come to what it is. -/
inductive MsgR : List (ByteArray × ByteArray) → List UInt8 → MsgO → Prop
  | fin (parts : List (ByteArray × ByteArray)) (st rest : List UInt8) (h : lineS st = some ([], rest)) : MsgR parts st (.good parts rest)
  | cont (parts ps : List (ByteArray × ByteArray)) (k : ByteArray) (v st l rest : List UInt8) (o : MsgO) (h : lineS st = some (l, rest)) (hp : parts = ps ++ [(k, mkB v)]) (hl : ∃ x, l.head? = some x ∧ isBl x = true) (ht : trimB l ≠ []) (h2 : MsgR (ps ++ [(k, mkB (v ++ 32 :: trimB l))]) rest o) : MsgR parts st o
  | bad (parts : List (ByteArray × ByteArray)) (st l rest : List UInt8) (h : lineS st = some (l, rest)) (h0 : l ≠ []) (hl : ∀ x, l.head? = some x → isBl x = false) (hc : cutC l = none) (hr : ∀ x, rest.head? = some x → isBl x = false) : MsgR parts st .bad
  | more (parts : List (ByteArray × ByteArray)) (st l rest a z : List UInt8) (o : MsgO) (h : lineS st = some (l, rest)) (hc : cutC l = some (a, z)) (hn : a.all nameC = true) (h0 : a ≠ []) (h2 : MsgR (parts ++ [(mkB (canon a), mkB (trimB z))]) rest o) : MsgR parts st o

theorem lineS_some {st l t : List UInt8} (h : lineS st = some (l, t)) : ∃ a, brk st = some (a, t) ∧ l = chop a := by
  unfold lineS at h
  cases hb : brk st with
  | none => rw [hb] at h; cases h
  | some p =>
    rw [hb] at h
    obtain ⟨a, t'⟩ := p
    injection h with h
    injection h with h1 h2
    subst h2
    exact ⟨a, rfl, h1.symm⟩
theorem lineS_line {st l t l2 t2 : List UInt8} (h : lineS st = some (l, t)) (h2 : LineR st l2 t2) : l2 = l ∧ t2 = t := by
  obtain ⟨a, hb, rfl⟩ := lineS_some h
  exact h2.1 a t hb
theorem MsgR.brk {parts : List (ByteArray × ByteArray)} {st : List UInt8} {o : MsgO} (h : MsgR parts st o) : brk st ≠ none := by
  have key : ∀ l t, lineS st = some (l, t) → Proofs.YtddnjdapdcopgaaDoor.brk st ≠ none := fun l t h e => by
    unfold lineS at h
    rw [e] at h
    cases h
  cases h with
  | fin _ _ rest h => exact key _ _ h
  | cont _ ps k v _ l rest _ h => exact key _ _ h
  | bad _ _ l rest h => exact key _ _ h
  | more _ _ l rest a z _ h => exact key _ _ h

/- Trimming. -/
theorem isBl_ten {c : UInt8} (h : isBl c = true) : c ≠ 10 ∧ c ≠ 13 := by
  have : c = 32 ∨ c = 9 := by simpa [isBl] using h
  rcases this with rfl | rfl <;> decide
theorem all_bl {l : List UInt8} (h : l.all isBl = true) {x : UInt8} (hx : x ∈ l) : isBl x = true := List.all_eq_true.1 h x hx
theorem dropWhile_all {p : UInt8 → Bool} : ∀ {l : List UInt8}, l.all p = true → l.dropWhile p = []
  | [], _ => rfl
  | c :: r, h => by
    simp only [List.all_cons, Bool.and_eq_true] at h
    rw [List.dropWhile_cons, if_pos h.1]
    exact dropWhile_all h.2
theorem ltrim_app (p x : List UInt8) : ltrim (p ++ x) = if (ltrim p).isEmpty then ltrim x else ltrim p ++ x := List.dropWhile_append
theorem rtrim_app (p x : List UInt8) : rtrim (p ++ x) = if (rtrim x).isEmpty then rtrim p else p ++ rtrim x := by
  unfold rtrim
  rw [List.reverse_append, List.dropWhile_append]
  simp only [List.isEmpty_reverse]
  split
  · rfl
  · rw [List.reverse_append, List.reverse_reverse]
theorem ltrim_bl {p : List UInt8} (h : p.all isBl = true) (x : List UInt8) : ltrim (p ++ x) = ltrim x := by
  rw [ltrim_app, show ltrim p = [] from dropWhile_all h]; rfl
theorem rtrim_bl {p : List UInt8} (h : p.all isBl = true) : rtrim p = [] := by
  unfold rtrim
  rw [dropWhile_all (by rw [List.all_reverse]; exact h)]; rfl
theorem ltrim_split (l : List UInt8) : ∃ b, l = b ++ ltrim l ∧ b.all isBl = true :=
  ⟨l.takeWhile isBl, List.takeWhile_append_dropWhile.symm, List.all_takeWhile⟩
theorem ltrim_head {l : List UInt8} {x : UInt8} (h : (ltrim l).head? = some x) : isBl x = false := by
  cases hb : isBl x with
  | false => rfl
  | true =>
    have h2 : ∀ l : List UInt8, (l.dropWhile isBl).head? = some x → False := by
      intro l
      induction l with
      | nil => intro h; cases h
      | cons c r ih =>
        intro h
        rw [List.dropWhile_cons] at h
        split at h
        · exact ih h
        · rename_i hc
          injection h with h
          rw [h] at hc
          exact hc hb
    exact (h2 l h).elim
theorem ltrim_id {l : List UInt8} (h : ∀ x, l.head? = some x → isBl x = false) : ltrim l = l := by
  cases l with
  | nil => rfl
  | cons c r => unfold ltrim; rw [List.dropWhile_cons, if_neg (by rw [h c rfl]; decide)]
theorem ltrim_ltrim (l : List UInt8) : ltrim (ltrim l) = ltrim l := ltrim_id fun _ h => ltrim_head h
theorem rtrim_id {l : List UInt8} (h : ∀ x, l.getLast? = some x → isBl x = false) : rtrim l = l := by
  unfold rtrim
  have e : l.reverse.dropWhile isBl = l.reverse := ltrim_id (l := l.reverse) fun x hx => h x (by rw [List.head?_reverse] at hx; exact hx)
  rw [e, List.reverse_reverse]
theorem rtrim_last {l : List UInt8} {x : UInt8} (h : (rtrim l).getLast? = some x) : isBl x = false := by
  unfold rtrim at h
  rw [List.getLast?_reverse] at h
  exact ltrim_head (l := l.reverse) h
theorem rtrim_rtrim (l : List UInt8) : rtrim (rtrim l) = rtrim l := rtrim_id fun _ h => rtrim_last h
theorem isEmpty_of {l : List UInt8} (h : l = []) : l.isEmpty = true := by rw [h]; rfl
theorem isEmpty_no {l : List UInt8} (h : l ≠ []) : l.isEmpty = false := by cases l with
  | nil => exact absurd rfl h
  | cons c r => rfl
theorem ltrim_rtrim (z : List UInt8) : ltrim (rtrim z) = ltrim (rtrim (ltrim z)) := by
  obtain ⟨b, hb, hall⟩ := ltrim_split z
  generalize hr : ltrim z = r at hb ⊢
  rw [hb, rtrim_app]
  by_cases h : rtrim r = []
  · rw [if_pos (isEmpty_of h), h, rtrim_bl hall]
  · rw [if_neg (by rw [isEmpty_no h]; decide), ltrim_bl hall]
theorem rtrim_ltrim {z : List UInt8} (h : rtrim z = z) : rtrim (ltrim z) = ltrim z := by
  obtain ⟨b, hb, hall⟩ := ltrim_split z
  generalize hr : ltrim z = r at hb ⊢
  rw [hb, rtrim_app] at h
  by_cases h0 : rtrim r = []
  · rw [if_pos (isEmpty_of h0), rtrim_bl hall] at h
    have : r = [] := by
      have := congrArg List.length h
      rw [List.length_append, List.length_nil] at this
      exact List.eq_nil_of_length_eq_zero (by omega)
    rw [this]; rfl
  · rw [if_neg (by rw [isEmpty_no h0]; decide)] at h
    exact List.append_cancel_left h
theorem trimB_bl {p : List UInt8} (h : p.all isBl = true) (x : List UInt8) : trimB (p ++ x) = trimB x := by
  unfold trimB; rw [ltrim_bl h]
theorem trimB_last {l : List UInt8} (h : trimB l ≠ []) : rtrim (32 :: trimB l) = 32 :: trimB l := by
  have e : (32 : UInt8) :: trimB l = [32] ++ trimB l := rfl
  have h1 : rtrim (trimB l) = trimB l := rtrim_rtrim _
  rw [e, rtrim_app, h1, if_neg (by rw [isEmpty_no h]; decide)]

/-- What the reader has (z) and what the reference has (v): the same but for blanks in front. -/
def JV (z v : List UInt8) : Prop := ltrim z = ltrim v ∧ rtrim z = z
theorem JV.start (z : List UInt8) : JV (rtrim z) (trimB z) := ⟨ltrim_rtrim z, rtrim_rtrim z⟩
theorem JV.fin {z v : List UInt8} (h : JV z v) : trimB v = ltrim z := by
  unfold trimB
  rw [← h.1, rtrim_ltrim h.2]
theorem JV.more {z v l : List UInt8} (h : JV z v) (ht : trimB l ≠ []) : JV (z ++ 32 :: trimB l) (v ++ 32 :: trimB l) := by
  refine ⟨by rw [ltrim_app, ltrim_app, h.1], ?_⟩
  rw [rtrim_app, trimB_last ht]
  rfl

theorem chop_bl {bl a : List UInt8} (h : bl.all isBl = true) : chop (bl ++ a) = bl ++ chop a := by
  unfold chop
  cases a with
  | nil =>
    rw [List.append_nil, List.getLast?_nil, if_neg, if_neg (by simp), List.append_nil]
    intro e
    have := List.mem_of_getLast? e
    exact (isBl_ten (all_bl h this)).2 rfl
  | cons c r =>
    have e : (bl ++ c :: r).getLast? = (c :: r).getLast? := by rw [List.getLast?_append]; cases hg : (c :: r).getLast? with
      | none => simp at hg
      | some x => rfl
    rw [e]
    split
    · rw [List.dropLast_append_of_ne_nil (by simp)]
    · rfl
theorem lineS_bl {bl st l t : List UInt8} (h : bl.all isBl = true) (hs : lineS (bl ++ st) = some (l, t)) : ∃ l2, lineS st = some (l2, t) ∧ l = bl ++ l2 := by
  have h10 : 10 ∉ bl := fun hx => (isBl_ten (all_bl h hx)).1 rfl
  unfold lineS at hs ⊢
  rw [brk_app h10] at hs
  cases hb : brk st with
  | none => rw [hb] at hs; cases hs
  | some p =>
    rw [hb] at hs
    obtain ⟨a, t'⟩ := p
    injection hs with hs
    injection hs with h1 h2
    subst h2
    exact ⟨chop a, rfl, by rw [← h1, chop_bl h]⟩

theorem snoc_inj {α : Type} {ps qs : List α} {p q : α} (h : ps ++ [p] = qs ++ [q]) : ps = qs ∧ p = q := by
  have := List.append_inj' h rfl
  exact ⟨this.1, by simpa using this.2⟩
theorem mkB_inj {a b : List UInt8} (h : mkB a = mkB b) : a = b := by rw [← mkB_list a, ← mkB_list b, h]

/-- A line that goes on. -/
theorem ContR.forced : ∀ {acc st fin : List UInt8} {o : Option (List UInt8)}, ContR acc st o fin → ∀ (a z v : List UInt8) (ps : List (ByteArray × ByteArray)) (k : ByteArray) (out : MsgO), acc = a ++ 58 :: z → JV z v → MsgR (ps ++ [(k, mkB v)]) st out →
    ∃ z' v', o = some (a ++ 58 :: z') ∧ JV z' v' ∧ MsgR (ps ++ [(k, mkB v')]) fin out ∧ ∀ x, fin.head? = some x → isBl x = false := by
  intro acc st fin o h
  induction h with
  | stop acc st h => intro a z v ps k out ha hj hm; exact ⟨z, v, by rw [ha], hj, hm, h⟩
  | eof acc bl st h1 h2 h3 =>
    intro a z v ps k out ha hj hm
    have h10 : 10 ∉ bl := fun hx => (isBl_ten (all_bl h2 hx)).1 rfl
    exact absurd (by rw [brk_app h10, h3]; rfl) hm.brk
  | more acc bl st l t o fin h1 h2 h3 h4 h5 ih =>
    intro a z v ps k out ha hj hm
    obtain ⟨b0, br, rfl⟩ : ∃ b0 br, bl = b0 :: br := by
      cases bl with
      | nil => exact absurd rfl h1
      | cons c r => exact ⟨c, r, rfl⟩
    have hb0 : isBl b0 = true := all_bl h2 (by simp)
    cases hm with
    | fin _ _ rest h =>
      obtain ⟨l2, _, e⟩ := lineS_bl h2 h
      cases e
    | bad _ _ l0 rest h h0 hl hc hr =>
      obtain ⟨l2, _, rfl⟩ := lineS_bl h2 h
      have := hl b0 rfl
      rw [hb0] at this
      cases this
    | more _ _ l0 rest a' z' _ h hc hn h0 hm2 =>
      obtain ⟨l2, _, rfl⟩ := lineS_bl h2 h
      obtain ⟨e, _⟩ := cutC_some hc
      cases a' with
      | nil => exact absurd rfl h0
      | cons c r =>
        injection e with e1 _
        simp only [List.all_cons, Bool.and_eq_true] at hn
        have := isBl_yes hb0
        rcases this with h6 | h6 <;> rw [h6] at e1 <;> rw [← e1] at hn <;> exact absurd hn.1 (by decide)
    | cont _ ps2 k2 v2 _ l0 rest _ h hp hl ht hm2 =>
      obtain ⟨l2, hl2, rfl⟩ := lineS_bl h2 h
      obtain ⟨rfl, rfl⟩ := lineS_line hl2 h4
      obtain ⟨rfl, e⟩ := snoc_inj hp
      injection e with e1 e2
      subst e1
      obtain rfl := mkB_inj e2
      rw [trimB_bl h2] at ht hm2
      exact ih a (z ++ 32 :: trimB l) (v ++ 32 :: trimB l) ps k out (by rw [ha]; simp) (hj.more ht) hm2

theorem cutC_at : ∀ (a z : List UInt8), (∀ x ∈ a, x ≠ 58) → cutC (a ++ 58 :: z) = some (a, z)
  | [], z, _ => by simp [cutC]
  | c :: r, z, h => by
    show cutC (c :: (r ++ 58 :: z)) = _
    unfold cutC
    rw [if_neg (h c (by simp)), cutC_at r z (fun x hx => h x (by simp [hx]))]
    rfl
theorem nameC_no {c : UInt8} (h : nameC c = true) : c ≠ 58 ∧ isBl c = false ∧ c ≠ 10 ∧ c ≠ 13 := by
  refine ⟨fun e => ?_, ?_, fun e => ?_, fun e => ?_⟩
  · rw [e] at h; exact absurd h (by decide)
  · cases hb : isBl c with
    | false => rfl
    | true => rcases isBl_yes hb with e | e <;> rw [e] at h <;> exact absurd h (by decide)
  · rw [e] at h; exact absurd h (by decide)
  · rw [e] at h; exact absurd h (by decide)

theorem chop_ne_head {st l t : List UInt8} (h : lineS st = some (l, t)) (hl : l ≠ []) : l.head? = st.head? := by
  obtain ⟨a, hb, rfl⟩ := lineS_some h
  obtain ⟨e, _⟩ := brk_some hb
  rw [chop_head hl, e]
  cases a with
  | nil => exact absurd rfl hl
  | cons x r => rfl
theorem cutC_trim {l : List UInt8} (h : cutC l = none) (hl : ∀ x, l.head? = some x → isBl x = false) : cutC (trimB l) = none := by
  cases hc : cutC (trimB l) with
  | none => rfl
  | some p =>
    obtain ⟨a, z⟩ := p
    obtain ⟨e, _⟩ := cutC_some hc
    have h2 := cutC_none h
    have h3 : (58 : UInt8) ∈ trimB l := by rw [e]; simp
    unfold trimB rtrim at h3
    rw [ltrim_id hl, List.mem_reverse] at h3
    exact absurd rfl (h2 58 (List.mem_reverse.1 ((List.dropWhile_sublist isBl).subset h3)))

theorem RclR.forced {parts : List (ByteArray × ByteArray)} {st kv fin : List UInt8} {err : Bool} {out : MsgO} (h : RclR st kv err fin) (hm : MsgR parts st out) (hh : ∀ x, st.head? = some x → isBl x = false) :
    err = false ∧ ((kv = [] ∧ out = .good parts fin) ∨ (kv ≠ [] ∧ cutC kv = none ∧ out = .bad) ∨
      ∃ a z v, kv = a ++ 58 :: z ∧ a.all nameC = true ∧ a ≠ [] ∧ JV z v ∧ MsgR (parts ++ [(mkB (canon a), mkB v)]) fin out ∧ ∀ x, fin.head? = some x → isBl x = false) := by
  have hbk := hm.brk
  cases hm with
  | fin _ _ rest h1 =>
    rcases h with ⟨_, _, _, h2 | ⟨l, t, h2, h3, _⟩⟩ | ⟨rfl, l, t, h2, h3⟩
    · exact absurd h2 hbk
    · exact absurd (lineS_line h1 h2).1 h3
    · obtain ⟨rfl, rfl⟩ := lineS_line h1 h2
      rcases h3 with ⟨_, rfl, rfl⟩ | ⟨h3, _⟩
      · exact ⟨rfl, .inl ⟨rfl, rfl⟩⟩
      · exact absurd rfl h3
  | cont _ ps k v _ l0 rest _ h1 hp hl ht h2 =>
    obtain ⟨x, hx, hxb⟩ := hl
    have hl0 : l0 ≠ [] := fun e => by rw [e] at hx; cases hx
    rw [chop_ne_head h1 hl0] at hx
    rw [hh x hx] at hxb
    cases hxb
  | bad _ _ l0 rest h1 h0 hl hc hr =>
    have key : ∀ o f, ContR (trimB l0) rest o f → o = some (trimB l0) ∧ f = rest := by
      intro o f h
      cases h with
      | stop _ _ _ => exact ⟨rfl, rfl⟩
      | eof _ bl st2 b1 b2 b3 =>
        cases bl with
        | nil => exact absurd rfl b1
        | cons c r =>
          have := hr c rfl
          rw [all_bl b2 (List.mem_cons_self)] at this
          cases this
      | more _ bl st2 l2 t2 _ _ b1 b2 =>
        cases bl with
        | nil => exact absurd rfl b1
        | cons c r =>
          have := hr c rfl
          rw [all_bl b2 (List.mem_cons_self)] at this
          cases this
    rcases h with ⟨_, _, _, h2 | ⟨l, t, h2, h3, h4⟩⟩ | ⟨rfl, l, t, h2, h3⟩
    · exact absurd h2 hbk
    · obtain ⟨rfl, rfl⟩ := lineS_line h1 h2
      cases (key _ _ h4).1
    · obtain ⟨rfl, rfl⟩ := lineS_line h1 h2
      rcases h3 with ⟨h3, _, _⟩ | ⟨_, h4⟩
      · exact absurd h3 h0
      · have e := (key _ _ h4).1
        injection e with e
        rw [e]
        exact ⟨rfl, .inr (.inl ⟨trimB_ne h0 hl, cutC_trim hc hl, rfl⟩)⟩
  | more _ _ l0 rest a z _ h1 hc hn h0 h2 =>
    obtain ⟨el, ha⟩ := cutC_some hc
    have hl0 : l0 ≠ [] := by rw [el]; simp
    have hhd : ∀ x, l0.head? = some x → isBl x = false := fun x hx => hh x (by rw [← chop_ne_head h1 hl0]; exact hx)
    have htr : trimB l0 = a ++ 58 :: rtrim z := by
      unfold trimB
      rw [ltrim_id hhd, el, show a ++ 58 :: z = (a ++ [58]) ++ z by simp, rtrim_app]
      split
      · rename_i he
        rw [List.isEmpty_iff] at he
        rw [he]
        exact rtrim_id fun x hx => by rw [List.getLast?_append] at hx; simp at hx; rw [← hx]; decide
      · simp
    have key : ∀ o f, ContR (trimB l0) rest o f → ∃ z' v', o = some (a ++ 58 :: z') ∧ JV z' v' ∧ MsgR (parts ++ [(mkB (canon a), mkB v')]) f out ∧ ∀ x, f.head? = some x → isBl x = false :=
      fun o f h => h.forced a (rtrim z) (trimB z) parts (mkB (canon a)) out htr (JV.start z) h2
    rcases h with ⟨_, _, _, h3 | ⟨l, t, h3, h4, h5⟩⟩ | ⟨rfl, l, t, h3, h4⟩
    · exact absurd h3 hbk
    · obtain ⟨rfl, rfl⟩ := lineS_line h1 h3
      obtain ⟨_, _, h6, _⟩ := key _ _ h5
      cases h6
    · obtain ⟨rfl, rfl⟩ := lineS_line h1 h3
      rcases h4 with ⟨h4, _, _⟩ | ⟨_, h5⟩
      · exact absurd h4 hl0
      · obtain ⟨z', v', h6, h7, h8, h9⟩ := key _ _ h5
        injection h6 with h6
        exact ⟨rfl, .inr (.inr ⟨a, z', v', h6, hn, h0, h7, h8, h9⟩)⟩

/-- A part as a field. -/
def finP (p : ByteArray × ByteArray) : ByteArray × ByteArray := (p.1, mkB (trimB p.2.data.toList))
/-- What reading comes to, by what the text is. -/
def Forced (fs : List (ByteArray × ByteArray)) (k : Nat) (fin : List UInt8) : MsgO → Prop
  | .good ps rest => k = 0 ∧ fin = rest ∧ fs = ps.map finP
  | .bad => k = 2
theorem HeadR.forced : ∀ {acc fs : List (ByteArray × ByteArray)} {st fin : List UInt8} {k : Nat}, HeadR acc st fs k fin → ∀ (parts : List (ByteArray × ByteArray)) (out : MsgO), MsgR parts st out → (∀ x, st.head? = some x → isBl x = false) → acc = parts.map finP → Forced fs k fin out := by
  intro acc fs st fin k h
  induction h with
  | fin acc st fin h =>
    intro parts out hm hh ha
    obtain ⟨_, h1 | h1 | ⟨a, z, v, h1, _⟩⟩ := h.forced hm hh
    · rw [h1.2]; exact ⟨rfl, rfl, ha⟩
    · exact absurd rfl h1.1
    · simp at h1
  | eof acc st fin h =>
    intro parts out hm hh ha
    obtain ⟨h1, _⟩ := h.forced hm hh
    cases h1
  | bad acc st kv fin h h0 h1 =>
    intro parts out hm hh ha
    obtain ⟨_, h2 | h2 | ⟨a, z, v, h2, hn, _⟩⟩ := h.forced hm hh
    · exact absurd h2.1 h0
    · rw [h2.2.2]; exact rfl
    · rw [h2, cutC_at a z (fun x hx => (nameC_no (List.all_eq_true.1 hn x hx)).1)] at h1
      cases h1
  | nokey acc st kv z t res k fin h h1 h2 ih =>
    intro parts out hm hh ha
    obtain ⟨_, h3 | h3 | ⟨a, z', v, h3, hn, h0, _⟩⟩ := h.forced hm hh
    · rw [h3.1] at h1; cases h1
    · rw [h3.2.1] at h1; cases h1
    · rw [h3, cutC_at a z' (fun x hx => (nameC_no (List.all_eq_true.1 hn x hx)).1)] at h1
      injection h1 with h1
      injection h1 with h1 _
      exact absurd h1 h0
  | more acc st kv a z t key res k fin h h1 h0 hk hn h2 ih =>
    intro parts out hm hh ha
    obtain ⟨_, h3 | h3 | ⟨a', z', v, h3, hn', h0', hj, hm', hh'⟩⟩ := h.forced hm hh
    · rw [h3.1] at h1; cases h1
    · rw [h3.2.1] at h1; cases h1
    · rw [h3, cutC_at a' z' (fun x hx => (nameC_no (List.all_eq_true.1 hn' x hx)).1)] at h1
      injection h1 with h1
      injection h1 with h1 h4
      subst h1; subst h4
      refine ih _ out hm' hh' ?_
      rw [List.map_append, ha, hn hn']
      show _ ++ [_] = _ ++ [finP _]
      unfold finP
      rw [mkB_list, hj.fin]
theorem FirstR.forced {st fin : List UInt8} {fs : List (ByteArray × ByteArray)} {k : Nat} {out : MsgO} (h : FirstR st fs k fin) (hm : MsgR [] st out) : Forced fs k fin out := by
  rcases h with ⟨x, hx, hb, _⟩ | ⟨hh, h⟩
  · have hne : ∀ l t, lineS st = some (l, t) → (∀ y, l.head? = some y → isBl y = false) → l = [] := fun l t h1 h2 => by
      by_cases hl : l = []
      · exact hl
      · have := h2 x (by rw [chop_ne_head h1 hl]; exact hx)
        rw [hb] at this; cases this
    have hfirst : ∀ t, lineS st ≠ some ([], t) := fun t h1 => by
      obtain ⟨a, hbk, hc⟩ := lineS_some h1
      obtain ⟨e, _⟩ := brk_some hbk
      cases a with
      | nil =>
        rw [e] at hx
        injection hx with hx
        rw [← hx] at hb
        exact absurd hb (by decide)
      | cons c r =>
        rw [e] at hx
        injection hx with hx
        unfold chop at hc
        split at hc
        · rename_i hg
          cases r with
          | nil =>
            injection hg with hg
            have h13 := (isBl_ten hb).2
            exact absurd (hx.symm.trans hg) h13
          | cons c2 r2 => cases hc
        · cases hc
    cases hm with
    | fin _ _ rest h1 => exact absurd h1 (hfirst _)
    | cont _ ps k v _ l rest _ h1 hp => simp at hp
    | bad _ _ l rest h1 h0 hl => exact absurd (hne _ _ h1 hl) h0
    | more _ _ l rest a z _ h1 hc hn h0 =>
      obtain ⟨el, _⟩ := cutC_some hc
      have := hne _ _ h1 (fun y hy => by
        rw [el] at hy
        cases a with
        | nil => exact absurd rfl h0
        | cons c r =>
          injection hy with hy
          rw [← hy]
          exact (nameC_no (List.all_eq_true.1 hn c (by simp))).2.1)
      rw [el] at this
      simp at this
  · exact h.forced [] out hm hh rfl
end Go.Proofs.YtddnjdapdcopgaaDoor
