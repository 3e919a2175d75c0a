/- bufio's reader over bytes' reader: what holds of it; fill. -/
import Derived.Test.YtddnjdapdcopgaaDoorRd
import Derived.LaidEql
namespace Go.Proofs.YtddnjdapdcopgaaDoor
open Go.RowKit

/-- Where the reader, its buffer, bytes' reader and the bytes lie; the two errors. -/
structure BR where
  R : Nat
  F : Nat
  S : Nat
  D : Nat
  data : List UInt8
  p : Option Addr
  scap : Nat
  eof : Addr
  full : Addr

/-- The cells of bufio's reader. -/
def bufS (c : BR) (r wi : Nat) (er : Value) (lb ls : Int) : List Value :=
  [.slice (some ⟨c.F, 0, none⟩) 4096 4096, .iface 46 (.pointer (some ⟨c.S, 0, none⟩)), .int .i64 (r : Int), .int .i64 (wi : Int), er, .int .i64 lb, .int .i64 ls]

/-- What never changes. -/
structure BR.Ok (c : BR) : Prop where
  hp : c.data ≠ [] → c.p = some ⟨c.D, 0, none⟩
  cap : c.data.length ≤ c.scap
  small : c.data.length ≤ 1000000000
  rf : c.R ≠ c.F
  rs : c.R ≠ c.S
  fs : c.F ≠ c.S
  dr : c.D ≠ c.R
  df : c.D ≠ c.F
  ds : c.D ≠ c.S
  ge : 0 ≠ c.R ∧ 0 ≠ c.F ∧ 0 ≠ c.S
  gf : 2 ≠ c.R ∧ 2 ≠ c.F ∧ 2 ≠ c.S
  ne : c.eof ≠ c.full
  he : c.eof.block ≠ c.R ∧ c.eof.block ≠ c.F ∧ c.eof.block ≠ c.S
  hf : c.full.block ≠ c.R ∧ c.full.block ≠ c.F ∧ c.full.block ≠ c.S

structure BufAt (c : BR) (bf : List UInt8) (r wi i : Nat) (er : Value) (lb ls : Int) (w : World) : Prop where
  ok : c.Ok
  rd : Ob w c.R 85 (bufS c r wi er lb ls)
  bb : Ob w c.F 5 (Lib.byteCells bf)
  sr : ∃ pv, Ob w c.S 74 (rdS (.slice c.p c.data.length c.scap) i pv)
  dat : ∀ j x, c.data[j]? = some x → w.cell? ⟨c.D, j, none⟩ = some (.int .u8 (x.toNat : Int))
  len : bf.length = 4096
  rw : r ≤ wi
  wb : wi ≤ 4096
  il : i ≤ c.data.length
  eo : w.cell? ⟨0, 0, none⟩ = some (eofV c.eof)
  fu : w.cell? ⟨2, 0, none⟩ = some (eofV c.full)
  eb : ∃ C t, w.heap[c.eof.block]? = some (.cells C t (0, 0))
  fb : ∃ C t, w.heap[c.full.block]? = some (.cells C t (0, 0))
  dl : c.D < w.heap.size

/-- The bytes in the buffer that are not yet read. -/
def bufQ (bf : List UInt8) (r wi : Nat) : List UInt8 := (bf.drop r).take (wi - r)
theorem bufQ_len {bf : List UInt8} {r wi : Nat} (hl : bf.length = 4096) (h2 : wi ≤ 4096) : (bufQ bf r wi).length = wi - r := by
  unfold bufQ; rw [List.length_take, List.length_drop]; omega

/-- The blocks that another's doing must leave alone. -/
def BR.all (c : BR) : List Nat := [c.R, c.F, c.S, c.D, 0, 2, c.eof.block, c.full.block]
def BR.own (c : BR) : List Nat := [c.R, c.F, c.S]

theorem Only.blk {L : List Nat} {w w' : World} {k : Nat} (h : Only L w w') (hk : k ∉ L) (hb : ∃ C t, w.heap[k]? = some (.cells C t (0, 0))) : ∃ C t, w'.heap[k]? = some (.cells C t (0, 0)) := by
  obtain ⟨C, t, hb⟩ := hb
  exact ⟨C, t, (h.kept k (Array.getElem?_eq_some_iff.1 hb).1 hk).trans hb⟩

theorem BufAt.only {c : BR} {bf : List UInt8} {r wi i : Nat} {er : Value} {lb ls : Int} {w w' : World} {L : List Nat} (h : BufAt c bf r wi i er lb ls w) (k : Only L w w') (hL : ∀ x, x ∈ L → x ∉ c.all) : BufAt c bf r wi i er lb ls w' := by
  have hn : ∀ x, x ∈ c.all → x ∉ L := fun x hx hx2 => hL x hx2 hx
  obtain ⟨pv, hs⟩ := h.sr
  exact ⟨h.ok, h.rd.only k (hn _ (by simp [BR.all])), h.bb.only k (hn _ (by simp [BR.all])), ⟨pv, hs.only k (hn _ (by simp [BR.all]))⟩, fun j x hj => k.cell (hn _ (by simp [BR.all])) (h.dat j x hj), h.len, h.rw, h.wb, h.il, k.cell (hn _ (by simp [BR.all])) h.eo, k.cell (hn _ (by simp [BR.all])) h.fu, k.blk (hn _ (by simp [BR.all])) h.eb, k.blk (hn _ (by simp [BR.all])) h.fb, Nat.lt_of_lt_of_le h.dl k.size⟩
theorem BufAt.lts {c : BR} {bf : List UInt8} {r wi i : Nat} {er : Value} {lb ls : Int} {w : World} (h : BufAt c bf r wi i er lb ls w) : ∀ x, x ∈ c.all → x < w.heap.size := by
  obtain ⟨pv, hs⟩ := h.sr
  obtain ⟨C1, t1, h1⟩ := h.eb
  obtain ⟨C2, t2, h2⟩ := h.fb
  intro x hx
  simp only [BR.all, List.mem_cons, List.not_mem_nil, or_false] at hx
  rcases hx with rfl | rfl | rfl | rfl | rfl | rfl | rfl | rfl
  · exact h.rd.lt
  · exact h.bb.lt
  · exact hs.lt
  · exact h.dl
  · exact block_lt_of_cell h.eo
  · exact block_lt_of_cell h.fu
  · exact (Array.getElem?_eq_some_iff.1 h1).1
  · exact (Array.getElem?_eq_some_iff.1 h2).1
theorem BufAt.below {c : BR} {bf : List UInt8} {r wi i : Nat} {er : Value} {lb ls : Int} {w w' : World} (h : BufAt c bf r wi i er lb ls w) (k : Below w.heap.size w w') : BufAt c bf r wi i er lb ls w' :=
  h.only (Only.of_below k) (fun _ hx => by cases hx)
theorem BufAt.drewN {c : BR} {bf : List UInt8} {r wi i : Nat} {er : Value} {lb ls : Int} {w : World} (h : BufAt c bf r wi i er lb ls w) (n : Nat) : BufAt c bf r wi i er lb ls (w.drewN n) :=
  h.only (Only.drewN [] w n) (fun _ hx => by cases hx)

/-- Another reader's cells, another buffer, another place of bytes' reader: the rest as it was. -/
theorem BufAt.put {c : BR} {bf bf' : List UInt8} {r r' wi wi' i i' : Nat} {er er' : Value} {lb lb' ls ls' : Int} {w w' : World} (h : BufAt c bf r wi i er lb ls w) (k : Only c.own w w')
    (hr : Ob w' c.R 85 (bufS c r' wi' er' lb' ls')) (hb : Ob w' c.F 5 (Lib.byteCells bf')) (hs : ∃ pv, Ob w' c.S 74 (rdS (.slice c.p c.data.length c.scap) i' pv))
    (hl : bf'.length = 4096) (hrw : r' ≤ wi') (hwb : wi' ≤ 4096) (hil : i' ≤ c.data.length) : BufAt c bf' r' wi' i' er' lb' ls' w' := by
  have o := h.ok
  exact ⟨o, hr, hb, hs, fun j x hj => k.cell (by simp [BR.own, o.dr, o.df, o.ds]) (h.dat j x hj), hl, hrw, hwb, hil, k.cell (by simp [BR.own, o.ge]) h.eo, k.cell (by simp [BR.own, o.gf]) h.fu, k.blk (by simp [BR.own, o.he]) h.eb, k.blk (by simp [BR.own, o.hf]) h.fb, Nat.lt_of_lt_of_le h.dl k.size⟩
/-- A cell of the reader is set. -/
theorem BufAt.setR {c : BR} {bf : List UInt8} {r r' wi wi' i : Nat} {er er' : Value} {lb lb' ls ls' : Int} {w : World} (h : BufAt c bf r wi i er lb ls w) (o : Nat) (v : Value) (hv : (bufS c r wi er lb ls).set o v = bufS c r' wi' er' lb' ls') (hrw : r' ≤ wi') (hwb : wi' ≤ 4096) :
    BufAt c bf r' wi' i er' lb' ls' (w.setCell ⟨c.R, o, none⟩ v) := by
  have k := Only.set w c.R o v
  obtain ⟨pv, hs⟩ := h.sr
  refine h.put (k.mono (by simp [BR.own])) (by have := h.rd.set o v; rw [hv] at this; exact this) (h.bb.only k (by simp [h.ok.rf.symm])) ⟨pv, hs.only k (by simp [h.ok.rs.symm])⟩ h.len hrw hwb h.il
/-- The reader's cells are other ones, nothing else. -/
theorem BufAt.reR {c : BR} {bf : List UInt8} {r r' wi wi' i : Nat} {er er' : Value} {lb lb' ls ls' : Int} {w w' : World} (h : BufAt c bf r wi i er lb ls w) (k : Only [c.R] w w') (ho : Ob w' c.R 85 (bufS c r' wi' er' lb' ls')) (hrw : r' ≤ wi') (hwb : wi' ≤ 4096) :
    BufAt c bf r' wi' i er' lb' ls' w' := by
  obtain ⟨pv, hs⟩ := h.sr
  exact h.put (k.mono (by simp [BR.own])) ho (h.bb.only k (by simp [h.ok.rf.symm])) ⟨pv, hs.only k (by simp [h.ok.rs.symm])⟩ h.len hrw hwb h.il
theorem BufAt.onlySet {c : BR} {w : World} (o : Nat) (v : Value) : Only c.own w (w.setCell ⟨c.R, o, none⟩ v) := (Only.set w c.R o v).mono (by simp [BR.own])

theorem errComp : (Tryd.prog.info? 89).map (·.comparable) = some true := by kernel_rfl
theorem errSize : (Tryd.prog.info? 91).map (·.size) = some 1 := by kernel_rfl
/-- '==' between two errors of errors.New's make. -/
theorem eql_err {W : World} (x a : Addr) (hx : ∃ C t, W.heap[x.block]? = some (.cells C t (0, 0))) (ha : ∃ C t, W.heap[a.block]? = some (.cells C t (0, 0))) :
    (binOp .eql 43 (.iface 89 (.pointer (some x))) (.iface 89 (.pointer (some a)))).run Tryd.prog W = .ok (.bool (decide (x = a))) W := by
  obtain ⟨i, hi, hcmp⟩ := Option.map_eq_some_iff.1 errComp
  obtain ⟨j, hj, hjs⟩ := Option.map_eq_some_iff.1 errSize
  obtain ⟨C1, t1, hx⟩ := hx
  obtain ⟨C2, t2, ha⟩ := ha
  by_cases h : x = a
  · subst h
    simpa using run_eql_iface_ptr_same (P := Tryd.prog) W x Tryd.underlying43 Tryd.underlying89 hi hcmp hj
  · simpa [h] using run_eql_iface_ptr_other (P := Tryd.prog) W Tryd.underlying43 Tryd.underlying89 hi hcmp hj (by rw [hjs]; decide) h hx ha
theorem eql_nil_err (W : World) (v : Value) : (binOp .eql 43 .nilIface (.iface 89 v)).run Tryd.prog W = .ok (.bool false) W :=
  run_eql_iface_nil_left (P := Tryd.prog) W 89 v Tryd.underlying43

theorem method_rd (a : Addr) (w : World) : (method 225 46 (.pointer (some a)) "Read").run Tryd.prog w = .ok (69, .pointer (some a)) w := by kernel_rfl
end Go.Proofs.YtddnjdapdcopgaaDoor
