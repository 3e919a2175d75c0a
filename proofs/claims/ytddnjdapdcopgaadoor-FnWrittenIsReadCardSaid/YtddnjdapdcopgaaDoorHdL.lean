/- What reading a header comes to: a relation. No program in sight. -/
import Derived.Test.YtddnjdapdcopgaaDoorHeader
namespace Go.Proofs.YtddnjdapdcopgaaDoor
open Go.RowKit

/-- The fields so far, what is still to come; then all fields, how it ends (0: an empty line, 1: the end, 2: another error), what is left. -/
inductive HeadR : List (ByteArray × ByteArray) → List UInt8 → List (ByteArray × ByteArray) → Nat → List UInt8 → Prop
  | fin (acc : List (ByteArray × ByteArray)) (st fin : List UInt8) (h : RclR st [] false fin) : HeadR acc st acc 0 fin
  | eof (acc : List (ByteArray × ByteArray)) (st fin : List UInt8) (h : RclR st [] true fin) : HeadR acc st acc 1 fin
  | bad (acc : List (ByteArray × ByteArray)) (st kv fin : List UInt8) (h : RclR st kv false fin) (h0 : kv ≠ []) (h1 : cutC kv = none) : HeadR acc st acc 2 fin
  | nokey (acc : List (ByteArray × ByteArray)) (st kv z t : List UInt8) (res : List (ByteArray × ByteArray)) (k : Nat) (fin : List UInt8) (h : RclR st kv false t) (h1 : cutC kv = some ([], z)) (h2 : HeadR acc t res k fin) : HeadR acc st res k fin
  | more (acc : List (ByteArray × ByteArray)) (st kv a z t : List UInt8) (key : ByteArray) (res : List (ByteArray × ByteArray)) (k : Nat) (fin : List UInt8) (h : RclR st kv false t) (h1 : cutC kv = some (a, z)) (h0 : a ≠ []) (hk : key.size = a.length) (hn : a.all nameC = true → key = mkB (canon a))
      (h2 : HeadR (acc ++ [(key, mkB (ltrim z))]) t res k fin) : HeadR acc st res k fin

/-- The whole: a blank in front is an error. -/
def FirstR (st : List UInt8) (fs : List (ByteArray × ByteArray)) (k : Nat) (fin : List UInt8) : Prop :=
  (∃ x, st.head? = some x ∧ isBl x = true ∧ fs = [] ∧ (k = 1 ∨ k = 2)) ∨ ((∀ x, st.head? = some x → isBl x = false) ∧ HeadR [] st fs k fin)

theorem ContR.head : ∀ {acc st kv fin : List UInt8} {o : Option (List UInt8)}, ContR acc st o fin → o = some kv → ∀ x, fin.head? = some x → isBl x = false := by
  intro acc st kv fin o h
  induction h with
  | stop acc st h => intro _; exact h
  | eof => intro e; cases e
  | more acc bl st l t o fin h1 h2 h3 h4 h5 ih => exact ih
theorem ContR.ne : ∀ {acc st kv fin : List UInt8} {o : Option (List UInt8)}, ContR acc st o fin → o = some kv → acc ≠ [] → kv ≠ [] := by
  intro acc st kv fin o h
  induction h with
  | stop acc st h => intro e h; obtain rfl := Option.some.inj e; exact h
  | eof => intro e; cases e
  | more acc bl st l t o fin h1 h2 h3 h4 h5 ih => intro e h; exact ih e (by simp)
/-- Behind a line that is not empty there is no blank. -/
theorem RclR.head {st kv fin : List UInt8} (h : RclR st kv false fin) (hk : kv ≠ []) : ∀ x, fin.head? = some x → isBl x = false := by
  rcases h with ⟨h, _⟩ | ⟨_, l, t, _, ⟨_, h, _⟩ | ⟨_, h⟩⟩
  · cases h
  · exact absurd h hk
  · exact h.head rfl

theorem mkB_size (l : List UInt8) : (mkB l).size = l.length := rfl
theorem cutC_len {l a z : List UInt8} (h : cutC l = some (a, z)) : a.length + z.length < l.length := by
  rw [(cutC_some h).1, List.length_append, List.length_cons]; omega
theorem ltrim_len (l : List UInt8) : (ltrim l).length ≤ l.length := by
  unfold ltrim
  exact (List.dropWhile_sublist isBl).length_le

/-- The error that reading a header comes to. -/
def ErK (c : BR) (w : World) (k : Nat) (er : Value) (w' : World) : Prop :=
  (k = 0 ∧ er = .nilIface) ∨ (k = 1 ∧ er = eofV c.eof) ∨ (k = 2 ∧ ∃ a : Addr, er = eofV a ∧ w.heap.size ≤ a.block ∧ ∃ C t, w'.heap[a.block]? = some (.cells C t (0, 0)))
/-- What readHeader leaves. -/
def HdOut (T : Nat) (c : BR) (st : List UInt8) (w : World) (e : Ending) (w' : World) : Prop :=
  ∃ M fs bv l fin k er, e = .returned (.tuple #[.map (some M), er]) ∧ w.heap.size ≤ M ∧ TpAt T (M + 1) c bv l w' ∧ HdrX w' M fs.length fs bv.ownBlock ∧ BufQ c fin w' ∧ Only (T :: c.own) w w' ∧ fs.length + fin.length ≤ st.length ∧ ErK c w k er w' ∧ FirstR st fs k fin

/-- Where the loop stands. -/
def HdRel (T : Nat) (c : BR) (st : List UInt8) (w : World) (M g : Nat) (wr : World) : Prop :=
  ∃ bv l fs t, TpAt T (M + 1) c bv l wr ∧ BufQ c t wr ∧ HdrX wr M fs.length fs bv.ownBlock ∧ Only (T :: c.own) w wr ∧ g = t.length ∧ fs.length + t.length ≤ st.length ∧ (∀ x, t.head? = some x → isBl x = false) ∧ (∀ p, p ∈ fs → p.1.size ≤ 1000000000) ∧ (∀ res k fin, HeadR fs t res k fin → HeadR [] st res k fin)
end Go.Proofs.YtddnjdapdcopgaaDoor
