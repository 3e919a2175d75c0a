/- The reference's Trimmed: the walk. -/
import Derived.Test.YtddnjdapdcopgaaDoorSpecA
import Derived.Deep.DeepCutAuto
import Derived.Deep.CutBlock
namespace Go.Proofs.YtddnjdapdcopgaaDoor
open Go.RowKit

def strLen : Value → Nat
  | .string s => s.size
  | _ => 0
theorem bl_facts {c : UInt8} (h : isBl c = false) : ((c.toNat : Int) == 32) = false ∧ ((c.toNat : Int) == 9) = false := ⟨(isBl_no h).1, (isBl_no h).2.1⟩
theorem ltrim_get {l : List UInt8} {c : UInt8} (h : l[0]? = some c) : (isBl c = true → ltrim (l.drop 1) = ltrim l) ∧ (isBl c = false → ltrim l = l) := by
  cases l with
  | nil => cases h
  | cons d r =>
    injection h with h
    subst h
    refine ⟨fun hb => ?_, fun hb => ltrim_id fun x hx => by injection hx with hx; rw [← hx]; exact hb⟩
    show ltrim r = _
    unfold ltrim
    rw [List.dropWhile_cons, if_pos hb]
theorem rtrim_get {l : List UInt8} {m : Nat} {c : UInt8} (hl : l.length = m + 1) (h : l[m]? = some c) : (isBl c = true → rtrim (l.take m) = rtrim l) ∧ (isBl c = false → rtrim l = l) := by
  have e : l = l.take m ++ [c] := by
    conv => lhs; rw [← List.take_length (l := l), hl, List.take_add_one, h]
    rfl
  refine ⟨fun hb => ?_, fun hb => rtrim_id fun x hx => ?_⟩
  · conv => rhs; rw [e]
    rw [rtrim_app, show rtrim [c] = [] from rtrim_bl (by simp [hb])]
    rfl
  · rw [e, List.getLast?_append] at hx
    injection hx with hx
    rw [← hx]; exact hb

set_option maxHeartbeats 1000000 in
theorem trimmed_any (s : ByteArray) (w : World) (hs : s.size ≤ 1000000000) :
    Calls Tryd.prog 11 #[.string s] w fun e w' => e = .returned (.string (mkB (trimB s.data.toList))) ∧ w = w' := by
  go_enter Tryd.func11, Tryd.ntmps11
  go_upto_block 0 with fail
  go_cut [0] (fun sv wc => ∃ t : ByteArray, sv = .string t ∧ w = wc ∧ t.size ≤ s.size ∧ Hid (t.data.toList = ltrim s.data.toList))
  case first =>
    go_wp2_with fail
    go_loop [0] (fun sv => ∃ t : ByteArray, sv = .string t ∧ t.size ≤ s.size ∧ Hid (ltrim t.data.toList = ltrim s.data.toList)) (fun sv => strLen sv)
    case atStart => exact ⟨s, rfl, Nat.le_refl _, rfl⟩
    case round =>
      obtain ⟨t, rfl, hts, hl⟩ := hrel
      by_cases h0 : t.size = 0
      · have HF := hidF (show t.data.toList = ltrim s.data.toList from by
          rw [← hl.out]
          have : t.data.toList = [] := List.eq_nil_of_length_eq_zero (by rw [← size_of_list]; exact h0)
          rw [this]; rfl)
        clear hl
        go_wp2_with fail
        go_meet
        exact ⟨t, rfl, rfl, hts, HF⟩
      · have hpos : 0 < t.size := by omega
        obtain ⟨c, hc⟩ : ∃ c, c = t[0]'hpos := ⟨_, rfl⟩
        have hg := get_of t 0 hpos
        rw [← hc] at hg
        have hlg := ltrim_get hg
        have hc2 : ((t[0]'hpos).toNat : Int) = (c.toNat : Int) := by rw [hc]
        have hsz : (t.extract 1 t.size).size = t.size - 1 := by rw [ByteArray.size_extract]; omega
        clear hg
        cases hb : isBl c with
        | false =>
          obtain ⟨e1, e2⟩ := bl_facts hb
          have HF := hidF (show t.data.toList = ltrim s.data.toList from by rw [← hl.out, hlg.2 hb])
          clear hl hlg hb hc
          go_wp2_with fail
          go_meet
          exact ⟨t, rfl, rfl, hts, HF⟩
        | true =>
          have HF := hidF (show ltrim (t.extract 1 t.size).data.toList = ltrim s.data.toList from by rw [← hl.out, ← hlg.1 hb, from_mkB, mkB_list])
          have hcc : c = 32 ∨ c = 9 := isBl_yes hb
          clear hl hlg hb hc h0
          rcases hcc with rfl | rfl
          · have e1 : ((t[0]'hpos).toNat : Int) = 32 := by rw [hc2]; rfl
            clear hc2
            go_wp2_with fail
            go_round
            case rel => exact ⟨_, rfl, by rw [hsz]; omega, HF⟩
            case measure => simp only [strLen]; rw [hsz]; omega
          · have e1 : ((t[0]'hpos).toNat : Int) = 9 := by rw [hc2]; rfl
            clear hc2
            go_wp2_with fail
            go_round
            case rel => exact ⟨_, rfl, by rw [hsz]; omega, HF⟩
            case measure => simp only [strLen]; rw [hsz]; omega
  case rest =>
    obtain ⟨t0, rfl, rfl, hts0, ht0⟩ := hcut
    go_wp2_with fail
    go_loop [0] (fun sv => ∃ t : ByteArray, sv = .string t ∧ t.size ≤ s.size ∧ Hid (rtrim t.data.toList = trimB s.data.toList)) (fun sv => strLen sv)
    case atStart => exact ⟨t0, rfl, hts0, by rw [ht0.out]; rfl⟩
    case round =>
      obtain ⟨t, rfl, hts, hl⟩ := hrel
      by_cases h0 : t.size = 0
      · have HF := hidF (show t = mkB (trimB s.data.toList) from by
          rw [← hl.out]
          have : t.data.toList = [] := List.eq_nil_of_length_eq_zero (by rw [← size_of_list]; exact h0)
          rw [this, ← list_mkB t, this]; rfl)
        clear hl
        go_wp2_with fail
        go_ret
        exact ⟨by rw [← HF.out]; rfl, rfl⟩
      · obtain ⟨m, hm⟩ : ∃ m, t.size = m + 1 := ⟨t.size - 1, by omega⟩
        have hlt : m < t.size := by omega
        obtain ⟨c, hc⟩ : ∃ c, c = t[m]'hlt := ⟨_, rfl⟩
        have hg := get_of t m hlt
        rw [← hc] at hg
        have hlg := rtrim_get (by rw [← size_of_list]; exact hm) hg
        have hc2 : ((t[m]'hlt).toNat : Int) = (c.toNat : Int) := by rw [hc]
        have hsz : (t.extract 0 m).size = m := by rw [ByteArray.size_extract]; omega
        clear hg h0
        cases hb : isBl c with
        | false =>
          obtain ⟨e1, e2⟩ := bl_facts hb
          have HF := hidF (show t = mkB (trimB s.data.toList) from by rw [← hl.out, hlg.2 hb, list_mkB])
          clear hl hlg hb hc
          go_wp2_with fail
          go_ret
          exact ⟨by rw [← HF.out]; rfl, rfl⟩
        | true =>
          have HF := hidF (show rtrim (t.extract 0 m).data.toList = trimB s.data.toList from by rw [← hl.out, ← hlg.1 hb, to_mkB, mkB_list])
          have hcc : c = 32 ∨ c = 9 := isBl_yes hb
          clear hl hlg hb hc
          rcases hcc with rfl | rfl
          · have e1 : ((t[m]'hlt).toNat : Int) = 32 := by rw [hc2]; rfl
            clear hc2
            go_wp2_with fail
            go_round
            case rel => exact ⟨_, rfl, by rw [hsz]; omega, HF⟩
            case measure => simp only [strLen]; rw [hsz]; omega
          · have e1 : ((t[m]'hlt).toNat : Int) = 9 := by rw [hc2]; rfl
            clear hc2
            go_wp2_with fail
            go_round
            case rel => exact ⟨_, rfl, by rw [hsz]; omega, HF⟩
            case measure => simp only [strLen]; rw [hsz]; omega
end Go.Proofs.YtddnjdapdcopgaaDoor
