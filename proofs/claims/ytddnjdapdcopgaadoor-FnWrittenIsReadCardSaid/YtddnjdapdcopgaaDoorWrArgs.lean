/- What came in: slices of integers and of strings; zzFits1, plain and blank: the walks. -/
import Derived.Test.YtddnjdapdcopgaaDoorIo
import Derived.Test.YtddnjdapdcopgaaDoorMsgL
namespace Go.Proofs.YtddnjdapdcopgaaDoor
open Go.RowKit

/-- A slice of integers that came in reads as the list zs. -/
def IntRow (w : World) (ao : Option Addr) (len cap : Nat) (zs : List Int) : Prop :=
  (cap ≤ 9223372036854775807 ∧ len = 0 ∧ zs = []) ∨
  ∃ b off, ao = some ⟨b, off, none⟩ ∧ len ≤ cap ∧ cap ≤ 9223372036854775807 ∧ zs.length = len ∧ (0 < len → b < w.heap.size) ∧ ∀ i z, zs[i]? = some z → w.cell? ⟨b, off + i, none⟩ = some (.int .i64 z)

theorem IntRow.length {w : World} {ao : Option Addr} {len cap : Nat} {zs : List Int} (h : IntRow w ao len cap zs) : zs.length = len := by
  rcases h with ⟨_, h1, h2⟩ | ⟨_, _, _, _, _, h, _⟩
  · rw [h1, h2]; rfl
  · exact h
theorem IntRow.bound {w : World} {ao : Option Addr} {len cap : Nat} {zs : List Int} (h : IntRow w ao len cap zs) : len ≤ 9223372036854775807 := by
  rcases h with ⟨_, h1, _, h2⟩ | ⟨_, _, _, h1, h2, _⟩ <;> omega
theorem IntRow.below {w w' : World} {ao : Option Addr} {len cap : Nat} {zs : List Int} (h : IntRow w ao len cap zs) (k : Below w.heap.size w w') : IntRow w' ao len cap zs := by
  rcases h with h | ⟨b, off, h1, h2, h3, h4, h5, h6⟩
  · exact .inl h
  · refine .inr ⟨b, off, h1, h2, h3, h4, fun h => Nat.lt_of_lt_of_le (h5 h) k.size, fun i z hi => ?_⟩
    have hlt : i < zs.length := (List.getElem?_eq_some_iff.1 hi).1
    rw [k.cell (p := ⟨b, off + i, none⟩) (h5 (by omega))]
    exact h6 i z hi
/-- An element. -/
theorem IntRow.get {w : World} {ao : Option Addr} {len cap : Nat} {zs : List Int} (h : IntRow w ao len cap zs) (k : Nat) (hk : k < len) : ∃ b off z, ao = some ⟨b, off, none⟩ ∧ zs[k]? = some z ∧ w.cell? ⟨b, off + k, none⟩ = some (.int .i64 z) := by
  rcases h with ⟨_, h1, _⟩ | ⟨b, off, h1, _, _, h4, _, h6⟩
  · omega
  · have hz : zs[k]? = some zs[k] := List.getElem?_eq_getElem (by omega)
    exact ⟨b, off, _, h1, hz, h6 k _ hz⟩

theorem intRow_nil (w : World) (ao : Option Addr) : IntRow w ao 0 0 [] := .inl ⟨by omega, rfl, rfl⟩
theorem intRow_some (w : World) (x : Addr) (len cap : Nat) (zs : List Int) (hl : len ≤ cap) (hm : cap ≤ maxLen) (hz : zs.length = cap) (hc : ∀ i, i < zs.length → w.cell? (x.add i) = some (.int .i64 (zs.getD i 0))) :
    IntRow w (some x) len cap (zs.take len) := by
  unfold maxLen at hm
  by_cases h0 : len = 0
  · subst h0; exact .inl ⟨by omega, rfl, rfl⟩
  · obtain ⟨b, off, spot⟩ := x
    have hc0 := hc 0 (by omega)
    have hspot : spot = none := by simpa [Addr.add] using World.cell?_spot hc0
    subst hspot
    have hadd : ∀ i, (⟨b, off, none⟩ : Addr).add i = ⟨b, off + i, none⟩ := fun i => by unfold Addr.add; split <;> simp_all
    refine .inr ⟨b, off, rfl, hl, by omega, by simp; omega, fun _ => ?_, fun i z hi => ?_⟩
    · rw [hadd] at hc0; exact World.block_lt_of_cell? w _ hc0
    · have hlt : i < (zs.take len).length := (List.getElem?_eq_some_iff.1 hi).1
      have hlt2 : i < zs.length := by simp at hlt; omega
      have h1 := hc i hlt2
      rw [hadd] at h1
      rw [h1]
      rw [List.getElem?_take, if_pos (by simp at hlt; omega)] at hi
      simp [List.getD, hi]

/-- A slice of strings that came in reads as the list ss. -/
def StrRow (w : World) (ao : Option Addr) (len cap : Nat) (ss : List ByteArray) : Prop :=
  (cap ≤ 9223372036854775807 ∧ len = 0 ∧ 0 = 0 ∧ ss = []) ∨
  ∃ b off, ao = some ⟨b, off, none⟩ ∧ len ≤ cap ∧ cap ≤ 9223372036854775807 ∧ ss.length = len ∧ (0 < len → b < w.heap.size) ∧ ∀ i s, ss[i]? = some s → w.cell? ⟨b, off + i, none⟩ = some (.string s)

theorem StrRow.length {w : World} {ao : Option Addr} {len cap : Nat} {ss : List ByteArray} (h : StrRow w ao len cap ss) : ss.length = len := by
  rcases h with ⟨_, h1, _, h2⟩ | ⟨_, _, _, _, _, h, _⟩
  · rw [h1, h2]; rfl
  · exact h
theorem StrRow.bound {w : World} {ao : Option Addr} {len cap : Nat} {ss : List ByteArray} (h : StrRow w ao len cap ss) : len ≤ 9223372036854775807 := by
  rcases h with ⟨_, h1, _, h2⟩ | ⟨_, _, _, h1, h2, _⟩ <;> omega
theorem StrRow.below {w w' : World} {ao : Option Addr} {len cap : Nat} {ss : List ByteArray} (h : StrRow w ao len cap ss) (k : Below w.heap.size w w') : StrRow w' ao len cap ss := by
  rcases h with h | ⟨b, off, h1, h2, h3, h4, h5, h6⟩
  · exact .inl h
  · refine .inr ⟨b, off, h1, h2, h3, h4, fun h => Nat.lt_of_lt_of_le (h5 h) k.size, fun i s hi => ?_⟩
    have hlt : i < ss.length := (List.getElem?_eq_some_iff.1 hi).1
    rw [k.cell (p := ⟨b, off + i, none⟩) (h5 (by omega))]
    exact h6 i s hi

def smallB (s : ByteArray) : Bool := decide (s.size ≤ 2147483647)
def fitsL (ss : List ByteArray) : Bool := decide (ss.length ≤ 2147483647) && ss.all smallB

theorem fitsL_get {ss : List ByteArray} (h : fitsL ss = true) : ss.length ≤ 2147483647 ∧ ∀ s ∈ ss, s.size ≤ 2147483647 := by
  unfold fitsL at h
  rw [Bool.and_eq_true, decide_eq_true_eq, List.all_eq_true] at h
  exact ⟨h.1, fun s hs => by simpa [smallB] using h.2 s hs⟩

theorem list_drop_cons {α : Type} (l : List α) (k : Nat) (x : α) (h : l[k]? = some x) : l.drop k = x :: l.drop (k + 1) := by
  rw [List.getElem?_eq_some_iff] at h
  obtain ⟨hk, he⟩ := h
  rw [List.drop_eq_getElem_cons hk, he]

set_option maxHeartbeats 1000000 in
theorem fits_any (ao : Option Addr) (len cap : Nat) (ss : List ByteArray) (w : World) (h : StrRow w ao len cap ss) :
    Calls Tryd.prog 8 #[.slice ao len cap] w fun e w' => e = .returned (.bool (fitsL ss)) ∧ w = w' := by
  have hbd := h.bound
  have Hlen := hidF h.length
  by_cases hbig : 2147483647 < len
  · have e1 : (2147483647 : Int) < (len : Int) := by omega
    have hres := hidF (show fitsL ss = false by unfold fitsL; rw [decide_eq_false (by rw [Hlen.out]; omega)]; rfl)
    clear h
    go_enter Tryd.func8, Tryd.ntmps8
    go_wp2
    go_ret
    exact ⟨by rw [hres.out]; rfl, rfl⟩
  · have e1 : ¬ (2147483647 : Int) < (len : Int) := by omega
    have hres := hidF (show fitsL ss = ss.all smallB by unfold fitsL; rw [decide_eq_true (by rw [Hlen.out]; omega), Bool.true_and])
    go_enter Tryd.func8, Tryd.ntmps8
    go_wp2
    go_loop [10] (fun iv => ∃ k : Nat, k ≤ len ∧ iv = .int .i64 k ∧ Hid ((ss.drop k).all smallB = ss.all smallB)) (fun iv => len - (intOf iv).toNat)
    case atStart => exact ⟨0, Nat.zero_le _, rfl, rfl⟩
    case round =>
      obtain ⟨k, hk, rfl, hall⟩ := hrel
      by_cases hkl : k < len
      · rcases h with ⟨_, h1, _⟩ | ⟨b, off, rfl, hlc, hcm, hsl, hbw, hcs⟩
        · omega
        · have hget := List.getElem?_eq_getElem (l := ss) (i := k) (by omega)
          obtain ⟨s, hs⟩ : ∃ s, s = ss[k] := ⟨_, rfl⟩
          rw [← hs] at hget
          have hcell := hcs k s hget
          have hd := hidF (list_drop_cons ss k s hget)
          clear hs hget hcs hbw hsl
          by_cases hsm : 2147483647 < s.size
          · have f1 : (2147483647 : Int) < (s.size : Int) := by omega
            have hno := hidF (show ss.all smallB = false by rw [← hall.out, hd.out, List.all_cons, show smallB s = false from decide_eq_false (by omega), Bool.false_and])
            clear hsm
            go_wp2
            go_ret
            exact ⟨by rw [hres.out, hno.out]; rfl, rfl⟩
          · have f1 : ¬ (2147483647 : Int) < (s.size : Int) := by omega
            have hyes := hidF (show (ss.drop (k + 1)).all smallB = ss.all smallB by rw [← hall.out, hd.out, List.all_cons, show smallB s = true from decide_eq_true (by omega), Bool.true_and])
            clear hsm
            go_wp2
            go_round
            case rel => exact ⟨k + 1, by omega, by go_num, hyes.out⟩
            case measure => simp [intOf]; omega
      · have hyes := hidF (show ss.all smallB = true by rw [← hall.out, List.drop_eq_nil_of_le (by rw [Hlen.out]; omega), List.all_nil])
        clear h
        go_wp2
        go_ret
        exact ⟨by rw [hres.out, hyes.out]; rfl, rfl⟩

/-- A printable sign of ASCII, or a tab. -/
def plainC (c : UInt8) : Bool := !((decide (c.toNat < 32) || decide (126 < c.toNat)) && decide (c.toNat ≠ 9))

def plainL (l : List UInt8) : Bool := l.all plainC

set_option maxHeartbeats 1000000 in
theorem plain_any (s : ByteArray) (w : World) (hs : s.size ≤ 9223372036854775807) :
    Calls Tryd.prog 10 #[.string s] w fun e w' => e = .returned (.bool (plainL s.data.toList)) ∧ w = w' := by
  go_enter Tryd.func10, Tryd.ntmps10
  go_wp2
  go_loop [6] (fun iv => ∃ k : Nat, k ≤ s.size ∧ iv = .int .i64 k ∧ Hid (plainL (s.data.toList.drop k) = plainL s.data.toList)) (fun iv => s.size - (intOf iv).toNat)
  case atStart => exact ⟨0, Nat.zero_le _, rfl, rfl⟩
  case round =>
    obtain ⟨k, hk, rfl, hall⟩ := hrel
    by_cases hlt : k < s.size
    · have hd := hidF (drop_cons s k hlt)
      have hyes : plainC s[k] = true → plainL (s.data.toList.drop (k + 1)) = plainL s.data.toList := fun h => by
        rw [← hall.out, hd.out]; unfold plainL; rw [List.all_cons, h, Bool.true_and]
      have hno : plainC s[k] = false → plainL s.data.toList = false := fun h => by
        rw [← hall.out, hd.out]; unfold plainL; rw [List.all_cons, h, Bool.false_and]
      have Hyes := hidF hyes
      have Hno := hidF hno
      clear hyes hno
      by_cases h9 : s[k].toNat = 9
      · have e1 : (((s[k].toNat : Nat) : Int) != 9) = false := by simp [h9]
        have e2 : (((s[k].toNat : Nat) : Int)) < 32 := by omega
        have hp := hidF (show plainC s[k] = true by simp [plainC, h9])
        clear h9
        go_wp2
        go_round
        case rel => exact ⟨k + 1, by omega, by go_num, Hyes.out hp.out⟩
        case measure => simp [intOf]; omega
      · have e1 : (((s[k].toNat : Nat) : Int) != 9) = true := by rw [bne_iff_ne]; omega
        by_cases h32 : s[k].toNat < 32
        · have e2 : (((s[k].toNat : Nat) : Int)) < 32 := by omega
          have hp := hidF (show plainC s[k] = false by simp [plainC, h9, h32])
          clear h9 h32
          go_wp2
          go_ret
          exact ⟨by rw [Hno.out hp.out]; rfl, rfl⟩
        · have e2 : ¬ (((s[k].toNat : Nat) : Int)) < 32 := by omega
          by_cases h126 : 126 < s[k].toNat
          · have e3 : 126 < (((s[k].toNat : Nat) : Int)) := by omega
            have hp := hidF (show plainC s[k] = false by simp [plainC, h9, h126])
            clear h9 h32 h126
            go_wp2
            go_ret
            exact ⟨by rw [Hno.out hp.out]; rfl, rfl⟩
          · have e3 : ¬ 126 < (((s[k].toNat : Nat) : Int)) := by omega
            have hp := hidF (show plainC s[k] = true by simp [plainC]; omega)
            clear h9 h32 h126
            go_wp2
            go_round
            case rel => exact ⟨k + 1, by omega, by go_num, Hyes.out hp.out⟩
            case measure => simp [intOf]; omega
    · have hdr := drop_end s k hlt
      go_wp2
      go_ret
      refine ⟨?_, rfl⟩
      rw [← hall.out, hdr]
      rfl

/-- Some blanks. -/
def BlankOut (w : World) (e : Ending) (w' : World) : Prop := ∃ bl, e = .returned (.string (mkB bl)) ∧ bl.all isBl = true ∧ bl.length ≤ 3 ∧ Only [] w w'
theorem u64_nonneg (z : Int) : 0 ≤ IntKind.u64.wrap z := by
  unfold IntKind.wrap
  simp [IntKind.signed, IntKind.bits]
  omega

set_option maxHeartbeats 4000000 in
set_option maxRecDepth 100000 in
theorem blank_any (ao : Option Addr) (len cap : Nat) (zs : List Int) (i : Nat) (w : World) (h : IntRow w ao len cap zs) (hi : i ≤ 1000000000) :
    Calls Tryd.prog 12 #[.slice ao len cap, .int .i64 i] w (BlankOut w) := by
  have hlen := h.bound
  by_cases hil : i < len
  · obtain ⟨b, off, z, rfl, hz, hc⟩ := h.get i hil
    have e1 : ¬ (len : Int) ≤ (i : Int) := by omega
    have hc2 : ∀ o, (w.alloc o).cell? ⟨b, off + i, none⟩ = some (.int .i64 z) := fun o => (World.cell?_of_block (heap_alloc_old w _ (block_lt_of_cell hc))).trans hc
    obtain ⟨r, hr, hr5⟩ : ∃ r : Nat, (IntKind.u64.wrap z).tmod 5 = (r : Int) ∧ r < 5 := by
      have h0 : 0 ≤ IntKind.u64.wrap z := u64_nonneg z
      refine ⟨((IntKind.u64.wrap z).tmod 5).toNat, ?_, ?_⟩
      · have := Int.tmod_nonneg 5 h0; omega
      · have := Int.tmod_lt_of_pos (IntKind.u64.wrap z) (show (0 : Int) < 5 by decide)
        have := Int.tmod_nonneg 5 h0
        omega
    have hO := hidF (show ∀ o, Only [] w (w.alloc o) from fun o => Only.of_below ((Below.refl _ _).alloc (Nat.le_refl _) o))
    clear h hz hc
    go_enter Tryd.func12, Tryd.ntmps12
    go_wp2_with fail
    go_ret
    clear hr
    match r, hr5 with
    | 0, _ => exact ⟨[], rfl, by decide, by decide, hO.out _⟩
    | 1, _ => exact ⟨[32], rfl, by decide, by decide, hO.out _⟩
    | 2, _ => exact ⟨[9], rfl, by decide, by decide, hO.out _⟩
    | 3, _ => exact ⟨[32, 32], rfl, by decide, by decide, hO.out _⟩
    | 4, _ => exact ⟨[32, 9, 32], rfl, by decide, by decide, hO.out _⟩
    | n + 5, h5 => exact absurd h5 (by omega)
  · have e1 : (len : Int) ≤ (i : Int) := by omega
    clear h
    go_enter Tryd.func12, Tryd.ntmps12
    go_wp2_with fail
    go_ret
    exact ⟨[], rfl, by decide, by decide, Only.refl _ _⟩
end Go.Proofs.YtddnjdapdcopgaaDoor
