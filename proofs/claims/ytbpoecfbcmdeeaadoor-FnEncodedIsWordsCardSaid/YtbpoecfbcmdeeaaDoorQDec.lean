/- gomime's fromHex, readHexByte, qDecode over texts that the reference takes: the walks. -/
import Derived.Test.YtbpoecfbcmdeeaaDoorUnq
import Derived.Test.YtbpoecfbcmdeeaaDoorRow
import Derived.Deep.OwnRows
namespace Go.Proofs.YtbpoecfbcmdeeaaDoor
open Go.RowKit

theorem fromHex_any (c : UInt8) (x : Nat) (h : hexV c = some x) (w : World) :
    Calls Tryd.prog 80 #[.int .u8 (c.toNat : Int)] w fun e w' => e = .returned (.tuple #[.int .u8 (x : Int), .nilIface]) ∧ w = w' := by
  have hc := c.toNat_lt
  by_cases h1 : 48 ≤ c.toNat ∧ c.toNat ≤ 57
  · have g1 : (48 : Int) ≤ (c.toNat : Int) := by omega
    have g2 : (c.toNat : Int) ≤ 57 := by omega
    have hx : x = c.toNat - 48 := by unfold hexV at h; rw [if_pos h1] at h; exact (Option.some.inj h).symm
    have hv := hidF (show (x : Int) = (c.toNat : Int) - 48 by omega)
    clear h1 h hx
    go_enter Tryd.func80, Tryd.ntmps80
    go_wp2_with fail
    go_ret2
    exact ⟨by rw [hv.out]; rfl, rfl⟩
  · by_cases h2 : 65 ≤ c.toNat ∧ c.toNat ≤ 70
    · have g1 : (48 : Int) ≤ (c.toNat : Int) := by omega
      have g2 : ¬ (c.toNat : Int) ≤ 57 := by omega
      have g3 : (65 : Int) ≤ (c.toNat : Int) := by omega
      have g4 : (c.toNat : Int) ≤ 70 := by omega
      have hx : x = c.toNat - 55 := by unfold hexV at h; rw [if_neg h1, if_pos h2] at h; exact (Option.some.inj h).symm
      have hv := hidF (show (x : Int) = (c.toNat : Int) - 65 + 10 by omega)
      clear h1 h2 h hx
      go_enter Tryd.func80, Tryd.ntmps80
      go_wp2_with fail
      go_ret2
      exact ⟨by rw [hv.out]; rfl, rfl⟩
    · unfold hexV at h
      rw [if_neg h1, if_neg h2] at h
      cases h

theorem or_hex8 (x y : Nat) (hx : x < 16) (hy : y < 16) : bits BinOp.or .u8 ((x : Int) * 16) (y : Int) = ((UInt8.ofNat (16 * x + y)).toNat : Int) := by
  have h : ∀ x y : Fin 16, bits BinOp.or .u8 ((x.val : Int) * 16) (y.val : Int) = ((UInt8.ofNat (16 * x.val + y.val)).toNat : Int) := by decide +kernel
  exact h ⟨x, hx⟩ ⟨y, hy⟩

set_option maxHeartbeats 1000000 in
theorem readHex_any (a b : UInt8) (x y : Nat) (hx : hexV a = some x) (hy : hexV b = some y) (w : World) :
    Calls Tryd.prog 65 #[.int .u8 (a.toNat : Int), .int .u8 (b.toNat : Int)] w fun e w' => e = .returned (.tuple #[.int .u8 ((UInt8.ofNat (16 * x + y)).toNat : Int), .nilIface]) ∧ w = w' := by
  have hxl := hexV_lt _ _ hx
  have hyl := hexV_lt _ _ hy
  have hor := or_hex8 x y hxl hyl
  obtain ⟨z, hz⟩ : ∃ z : Nat, z = (UInt8.ofNat (16 * x + y)).toNat := ⟨_, rfl⟩
  rw [← hz] at hor ⊢
  have x1 : (x : Int) < 16 := by omega
  have x2 : IntKind.u8.wrap ((x : Int) * 16) = (x : Int) * 16 := IntWalk.u8_in _ (by omega)
  have h1 := hidF (fromHex_any a x hx w)
  have h2 := hidF (fromHex_any b y hy w)
  clear hz hx hy
  go_enter Tryd.func65, Tryd.ntmps65
  go_wp2_with fail
  refine h1.out.mono ?_
  rintro e w1 ⟨rfl, rfl⟩
  go_wp2_with fail
  refine h2.out.mono ?_
  rintro e w1 ⟨rfl, rfl⟩
  go_wp2_with fail
  go_ret2
  exact ⟨rfl, rfl⟩

/-- Bytes that were decoded: in a new block; no error. -/
def CAt (w : World) (l : List UInt8) (e : Ending) (w' : World) : Prop :=
  Below w.heap.size w w' ∧ ∃ g cap, e = .returned (.tuple #[.slice (some ⟨g, 0, none⟩) l.length cap, .nilIface]) ∧ w.heap.size ≤ g ∧ g < w'.heap.size ∧ ∀ j c, l[j]? = some c → w'.cell? ⟨g, j, none⟩ = some (.int .u8 (c.toNat : Int))

theorem Row.zeros (w : World) (n : Nat) (e : TypeId) : Row (w.alloc (.cells (madeCells #[.int .u8 0] n) e)) w.heap.size (List.replicate n 0) := by
  intro j c hj
  rw [List.getElem?_replicate] at hj
  split at hj
  · rename_i h
    obtain rfl := Option.some.inj hj
    refine ⟨?_, ?_⟩
    · have h1 := World.cell?_alloc_mark w (madeCells #[.int .u8 0] n) e (0, 0) j
      refine h1.trans ?_
      unfold madeCells
      rw [Array.getElem?_map, Array.getElem?_range]
      simp [h, Nat.mod_one]
    · exact (World.frozen?_alloc_mark w (madeCells #[.int .u8 0] n) e 0 0 j).trans (by simp)
  · cases hj

/-- A row of n places, the first ones taken. -/
def fillL (out : List UInt8) (n : Nat) : List UInt8 := out ++ List.replicate (n - out.length) 0
theorem fill_set (out : List UInt8) (n : Nat) (x : UInt8) (h : out.length < n) : (fillL out n).set out.length x = fillL (out ++ [x]) n := by
  unfold fillL
  rw [List.set_append_right _ _ (Nat.le_refl _), Nat.sub_self, show n - out.length = (n - (out ++ [x]).length) + 1 by simp; omega, List.replicate_succ, List.set_cons_zero]
  simp
theorem fill_at (out : List UInt8) (n : Nat) (h : out.length < n) : (fillL out n)[out.length]? = some 0 := by
  unfold fillL
  rw [List.getElem?_append_right (Nat.le_refl _), Nat.sub_self, List.getElem?_replicate, if_pos (by omega)]
theorem fill_pre (out : List UInt8) (n j : Nat) (c : UInt8) (h : out[j]? = some c) : (fillL out n)[j]? = some c := by
  unfold fillL
  rw [List.getElem?_append_left (List.getElem?_eq_some_iff.1 h).1, h]

set_option maxHeartbeats 4000000 in
set_option maxRecDepth 100000 in
theorem qDecode_any (s : ByteArray) (b : List UInt8) (w : World) (hs : s.size ≤ 1000000) (hu : unqL s.data.toList = some b) :
    Calls Tryd.prog 45 #[.string s] w (CAt w b) := by
  have Hsl := hidF (size_of_list s)
  have Hu := hidF hu
  clear hu
  have hmk : ∀ w, (Instr.makeSlice 39 (.int .i64 (s.size : Int)) (.int .i64 (s.size : Int))).run Tryd.prog w = .ok (.slice (some ⟨w.heap.size, 0, none⟩) s.size s.size) (w.alloc (.cells (madeCells #[.int .u8 0] s.size) 5)) := fun w => run_make_row' 39 5 (.int .u8 0) 1 Tryd.underlying39 infoByteB rfl .i64 .i64 s.size (by omega) (by omega) w
  have hr0 := Row.zeros w s.size 5
  have hb0 : Below w.heap.size w (w.alloc (.cells (madeCells #[.int .u8 0] s.size) 5)) := (Below.refl _ _).alloc (Nat.le_refl _) _
  go_enter Tryd.func45, Tryd.ntmps45
  go_wp2_with fail
  clear hmk
  go_loopw [5, 6] (fun nv iv wr => ∃ (k : Nat) (out : List UInt8), k ≤ s.size ∧ iv = .int .i64 k ∧ nv = .int .i64 out.length ∧ out.length ≤ k ∧ Row wr w.heap.size (fillL out s.size) ∧ Below w.heap.size w wr ∧ w.heap.size < wr.heap.size ∧ Hid (some b = (unqL (s.data.toList.drop k)).map (out ++ ·))) (fun _ iv _ => s.size - (intOf iv).toNat)
  case atStart => exact ⟨0, [], Nat.zero_le _, rfl, rfl, Nat.le_refl _, by simpa [fillL] using hr0, hb0, by simp, hidF (by rw [List.drop_zero, Hu.out]; rfl)⟩
  case round =>
    obtain ⟨k, out, hk, rfl, rfl, hol, hrow, hb, hlt0, hst⟩ := hrel
    by_cases hlt : k < s.size
    · have hz : (k : Int) < (s.size : Int) := by omega
      have hoz : (out.length : Int) < (s.size : Int) := by omega
      have hol2 : out.length < s.size := by omega
      have hcl := hrow.cell (fill_at out s.size hol2)
      have hfr := hrow.free (fill_at out s.size hol2)
      have hnext := fun (x : UInt8) => (fill_set out s.size x hol2) ▸ Row.set hrow out.length x
      have Hnext := hidF hnext
      have hd := drop_cons s k hlt
      have hst' := hst.out
      rw [hd] at hst'
      obtain ⟨c, hc⟩ : ∃ c, c = s[k] := ⟨_, rfl⟩
      rw [← hc] at hst'
      have hb2 := fun v => hb.setCell (p := ⟨w.heap.size, out.length, none⟩) (Nat.le_refl _) v
      have Hb2 := hidF hb2
      clear hnext hb2 hd
      by_cases h95 : c = 95
      · subst h95
        rw [unqL_under] at hst'
        have hnx := hidF (show some b = (unqL (s.data.toList.drop (k + 1))).map ((out ++ [32]) ++ ·) by rw [hst']; simp [Option.map_map, Function.comp_def])
        have g1 : ((s[k].toNat : Int) == 95) = true := by rw [← hc]; decide
        clear hst' hst hc
        go_wp2_with fail
        go_roundw
        case rel => exact ⟨k + 1, out ++ [32], hlt, by go_num, by rw [List.length_append]; go_num, by simp; omega, Hnext.out 32, Hb2.out _, by simp [World.setCell]; exact hlt0, hnx⟩
        case measure => simp [intOf]; omega
      · have n95 : ((s[k].toNat : Int) == 95) = false := beq_eq_false_iff_ne.2 (by
          intro e; apply h95; apply UInt8.toNat_inj.1; have : (95 : UInt8).toNat = 95 := rfl; rw [hc]; omega)
        by_cases h61 : c = 61
        · subst h61
          have g1 : ((s[k].toNat : Int) == 61) = true := by rw [← hc]; decide
          have hsh : k + 2 < s.size := by
            apply Classical.byContradiction
            intro hn
            rw [unqL_short _ (by rw [List.length_drop, ← Hsl.out]; omega)] at hst'
            cases hst'
          have hd1 := drop_cons s (k + 1) (by omega)
          have hd2 := drop_cons s (k + 2) hsh
          rw [hd1, hd2] at hst'
          obtain ⟨x, hx⟩ : ∃ x, hexV s[k + 1] = some x := by
            cases hx : hexV s[k + 1] with
            | some x => exact ⟨x, rfl⟩
            | none => rw [unqL_nohex _ _ _ (.inl hx)] at hst'; cases hst'
          obtain ⟨y, hy⟩ : ∃ y, hexV s[k + 2] = some y := by
            cases hy : hexV s[k + 2] with
            | some y => exact ⟨y, rfl⟩
            | none => rw [unqL_nohex _ _ _ (.inr hy)] at hst'; cases hst'
          rw [unqL_hex _ _ _ _ _ hx hy] at hst'
          have hcall := hidF (fun W => (readHex_any s[k + 1] s[k + 2] x y hx hy W).mono (fun e w' (h : e = _ ∧ W = w') => (⟨h.1, 0, h.2.symm⟩ : e = _ ∧ ∃ q, w' = W.drewN q)))
          obtain ⟨z, hze⟩ : ∃ z, z = UInt8.ofNat (16 * x + y) := ⟨_, rfl⟩
          rw [← hze] at hst' hcall
          have hnx := hidF (show some b = (unqL (s.data.toList.drop (k + 3))).map ((out ++ [z]) ++ ·) by rw [hst']; simp [Option.map_map, Function.comp_def])
          have f1 : ¬ (s.size : Int) ≤ (k : Int) + 2 := by omega
          have f2 : (k : Int) + 1 < (s.size : Int) := by omega
          have f3 : (k : Int) + 2 < (s.size : Int) := by omega
          have f4 : ((k : Int) + 1).toNat = k + 1 := by omega
          have f5 : ((k : Int) + 2).toNat = k + 2 := by omega
          have w1 : IntKind.i64.wrap ((k : Int) + 1) = (k : Int) + 1 := IntWalk.i64_in _ (by omega)
          have w2 : IntKind.i64.wrap ((k : Int) + 2) = (k : Int) + 2 := IntWalk.i64_in _ (by omega)
          have p1 : (0 : Int) ≤ (k : Int) + 1 := by omega
          have p2 : (0 : Int) ≤ (k : Int) + 2 := by omega
          clear hst' hst hc hd1 hd2 hx hy hze
          go_wp2_with fail
          go_quiet ((go_at_call 65; exact Calls.quiet_of (hcall.out _)))
          have hcl3 : (wr.drewN nq).cell? ⟨w.heap.size, out.length, none⟩ = some (.int .u8 ((0 : UInt8).toNat : Int)) := hcl
          have hfr3 : (wr.drewN nq).frozen? ⟨w.heap.size, out.length, none⟩ = false := hfr
          go_wp2_with fail
          go_roundw
          case rel => exact ⟨k + 3, out ++ [z], by omega, by congr 1, by rw [List.length_append]; go_num, by simp; omega, Row.same (Hnext.out z) rfl, (Hb2.out _).trans ⟨rfl, rfl, rfl, Nat.le_refl _, fun _ _ => rfl⟩, by simp [World.setCell]; exact hlt0, hnx⟩
          case measure => simp [intOf]; omega
        · have n61 : ((s[k].toNat : Int) == 61) = false := beq_eq_false_iff_ne.2 (by
            intro e; apply h61; apply UInt8.toNat_inj.1; have : (61 : UInt8).toNat = 61 := rfl; rw [hc]; omega)
          have hok : okQ c = true := by
            cases h : okQ c with
            | true => rfl
            | false => rw [unqL_other _ _ h95 h61 h] at hst'; cases hst'
          have hrange : 32 < c.toNat ∧ c.toNat < 127 := by simpa [okQ] using hok
          have hnx := hidF (show some b = (unqL (s.data.toList.drop (k + 1))).map ((out ++ [c]) ++ ·) by rw [hst', unqL_plain _ _ h95 h61 hok]; simp [Option.map_map, Function.comp_def])
          have hcn : s[k].toNat = c.toNat := by rw [hc]
          have a1 : (s[k].toNat : Int) ≤ 126 := by omega
          have a2 : (32 : Int) ≤ (s[k].toNat : Int) := by omega
          have hcs := hidF hc
          clear hst' hst hc h95 h61 hok hcn hrange
          go_wp2_with fail
          go_roundw
          case rel => exact ⟨k + 1, out ++ [c], hlt, by go_num, by rw [List.length_append]; go_num, by simp; omega, by rw [← hcs.out]; exact Hnext.out c, Hb2.out _, by simp [World.setCell]; exact hlt0, hnx⟩
          case measure => simp [intOf]; omega
    · have hz : ¬ (k : Int) < (s.size : Int) := by omega
      have hbo : b = out := by
        have := hst.out
        rw [drop_end s k hlt, unqL_nil] at this
        have := Option.some.inj this
        simpa using this
      have hoz : (out.length : Int) ≤ (s.size : Int) := by omega
      subst hbo
      clear hst Hu
      go_wp2_with fail
      go_ret2
      exact ⟨hb, w.heap.size, s.size, rfl, Nat.le_refl _, hlt0, fun j c hj => hrow.cell (fill_pre _ _ j c hj)⟩
end Go.Proofs.YtbpoecfbcmdeeaaDoor
