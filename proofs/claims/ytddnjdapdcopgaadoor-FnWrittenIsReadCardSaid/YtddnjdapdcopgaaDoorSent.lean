/- The two listed errors that the readers look at: from the row's cell; a slice of bytes that came in. -/
import Derived.Test.YtddnjdapdcopgaaDoorClone
import Derived.Test.YtddnjdapdcopgaaDoorCards
import Derived.Test.YtddnjdapdcopgaaDoorTie
import Derived.LaidLaws
import Derived.LaidSub
import Derived.LaidMore
import Derived.Lay
import Derived.SevenTiedAt
import Derived.Stop.Joined
import Derived.Stop.ErrReads
import Derived.ChangeSlices
import Derived.OpenShut
namespace Go.Proofs.YtddnjdapdcopgaaDoor
open Go.ChangeShapes Go.WideShapes Go.RowKit

theorem eofNamed : Tryd.prog.globalNamed "io.EOF" = some 0 := by kernel_rfl
theorem fullNamed : Tryd.prog.globalNamed "bufio.ErrBufferFull" = some 2 := by kernel_rfl
theorem eofType : (Tryd.prog.globals[0]?).map (·.type) = some 43 := by kernel_rfl
theorem fullType : (Tryd.prog.globals[2]?).map (·.type) = some 43 := by kernel_rfl
theorem cellsErr : Tryd.prog.cellsOf 91 = 1 := by kernel_rfl
theorem cellsStr : Tryd.prog.cellsOf 9 = 1 := by kernel_rfl
theorem starErr : "*" ++ "errors.errorString" = "*errors.errorString" := by decide
theorem rowErr (u : TypeId) (h : Tryd.prog.typeName? 3 u = some "*errors.errorString") : u = 89 :=
  typeName_ptr_named (nm := "errors.errorString") (by rw [starErr]; kernel_rfl) (by kernel_rfl) (by decide) u (by rw [starErr]; exact h)

def laid2 : List (String × DataW Unit) := [("io.EOF", Rows.laid_io_EOF), ("bufio.ErrBufferFull", Rows.laid_bufio_ErrBufferFull)]

set_option maxRecDepth 100000 in
theorem sent_of {W : World} (h : laidMet Tryd.prog laid2 W) : ∃ eof full, Sent2 eof full W := by
  obtain ⟨ps, ⟨g0, t0, cs0, f0, p0, q0, hg0, ht0, hv0, hd0, ⟨g1, t1, cs1, f1, p1, q1, hg1, ht1, hv1, hd1, hq1, e1⟩, e0⟩, hnd, hrows⟩ := h
  obtain rfl := Option.some.inj (eofNamed.symm.trans hg0)
  obtain rfl := Option.some.inj (fullNamed.symm.trans hg1)
  obtain rfl := Option.some.inj (eofType.symm.trans ht0)
  obtain rfl := Option.some.inj (fullType.symm.trans ht1)
  have hq1' : q1 = [] := hq1
  subst hq1'
  subst e1
  subst e0
  obtain ⟨l0⟩ := cs0
  obtain ⟨l1⟩ := cs1
  have ok0 : ∀ u v, l0 = [.iface u v] → Value.okWide Tryd.prog W .any 0 u v := fun u v e => by
    subst e
    exact (hrows 0 0 (by simp [MemPlace.row])).2 u v (by simpa using World.var?_cell hg0 hv0 0)
  have ok1 : ∀ u v, l1 = [.iface u v] → Value.okWide Tryd.prog W .any 0 u v := fun u v e => by
    subst e
    exact (hrows 2 0 (by simp [MemPlace.row])).2 u v (by simpa using World.var?_cell hg1 hv1 0)
  obtain ⟨a0, s0, rfl, hc0, hs0, hz0, rfl⟩ := errorString_of_trod Tryd.underlying43 rowErr Tryd.underlying89 Tryd.underlying91 rfl rfl Tryd.underlying9 cellsErr cellsStr hd0 ok0
  obtain ⟨a1, s1, rfl, hc1, hs1, hz1, rfl⟩ := errorString_of_trod Tryd.underlying43 rowErr Tryd.underlying89 Tryd.underlying91 rfl rfl Tryd.underlying9 cellsErr cellsStr hd1 ok1
  obtain ⟨c0, t0, hb0⟩ := (hrows a0.block a0.off (by simp [MemPlace.row])).1
  obtain ⟨c1, t1, hb1⟩ := (hrows a1.block a1.off (by simp [MemPlace.row])).1
  refine ⟨a0, a1, by simpa [eofV] using World.var?_cell hg0 hv0 0, by simpa [eofV] using World.var?_cell hg1 hv1 0, ⟨c0, t0, hb0⟩, ⟨c1, t1, hb1⟩, ?_⟩
  rintro rfl
  simp [MemPlace.row] at hnd

/-- A slice of bytes that came in. -/
theorem argB_some (W : World) (a : Addr) (len cap : Nat) (zs : List Int) (hl : len ≤ cap) (hz : zs.length = cap) (hc : ∀ i, i < zs.length → W.cell? (a.add i) = some (.int .u8 (zs.getD i 0))) (hw : ∀ n ∈ zs, (Lit.int .u8 n).wf = true) :
    ∃ l : List UInt8, ArgB (.slice (some a) len cap) l W ∧ len = l.length := by
  refine ⟨(zs.take len).map (fun n => UInt8.ofNat n.toNat), .inr ⟨a, cap, ?_, fun j x hj => ?_⟩, ?_⟩
  · congr 1
    rw [List.length_map, List.length_take]; omega
  · rw [List.getElem?_map] at hj
    cases hz2 : (zs.take len)[j]? with
    | none => rw [hz2] at hj; cases hj
    | some z =>
      rw [hz2] at hj
      injection hj with hj
      rw [List.getElem?_take] at hz2
      split at hz2
      · have hjz := (List.getElem?_eq_some_iff.1 hz2).1
        have h1 := hc j hjz
        rw [List.getD_eq_getElem?_getD, hz2] at h1
        rw [h1, ← hj]
        have h2 := hw z (List.mem_of_getElem? hz2)
        have h3 : 0 ≤ z ∧ z ≤ 255 := bounds_u8 h2
        congr 2
        simp only [Option.getD_some, UInt8.toNat_ofNat']
        omega
      · cases hz2
  · rw [List.length_map, List.length_take]; omega
end Go.Proofs.YtddnjdapdcopgaaDoor
