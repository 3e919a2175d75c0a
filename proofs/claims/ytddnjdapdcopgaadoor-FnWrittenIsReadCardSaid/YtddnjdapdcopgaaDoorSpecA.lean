/- The reference's line: the walk. -/
import Derived.Test.YtddnjdapdcopgaaDoorMsgL
import Derived.Test.YtddnjdapdcopgaaDoorNames
namespace Go.Proofs.YtddnjdapdcopgaaDoor
open Go.RowKit

theorem to_mkB (s : ByteArray) (k : Nat) : s.extract 0 k = mkB (s.data.toList.take k) := by
  apply ByteArray.ext
  apply Array.ext'
  rw [ByteArray.data_extract]
  simp [mkB, List.take_eq_take_iff]

def LineOutS (s : ByteArray) (e : Ending) : Prop :=
  (e = .returned (.tuple #[.string ⟨#[]⟩, .string ⟨#[]⟩, .bool false]) ∧ lineS s.data.toList = none) ∨
  ∃ l t, e = .returned (.tuple #[.string (mkB l), .string (mkB t), .bool true]) ∧ lineS s.data.toList = some (l, t)

theorem takeS {l : List UInt8} {k : Nat} {c : UInt8} (h : l[k]? = some c) : l = l.take k ++ c :: l.drop (k + 1) := by
  obtain ⟨h1, h2⟩ := List.getElem?_eq_some_iff.1 h
  rw [← h2, ← List.drop_eq_getElem_cons h1, List.take_append_drop]
theorem chopS {l : List UInt8} {j : Nat} {d : UInt8} (h : l[j]? = some d) : chop (l.take (j + 1)) = if d = 13 then l.take j else l.take (j + 1) := by
  have e : l.take (j + 1) = l.take j ++ [d] := by rw [List.take_add_one, h]; rfl
  rw [e]
  unfold chop
  rw [List.getLast?_append, List.dropLast_concat]
  by_cases h13 : d = 13
  · rw [if_pos h13, if_pos (by rw [h13]; rfl)]
  · rw [if_neg h13, if_neg (by simpa using h13)]

set_option maxHeartbeats 1000000 in
theorem line_any (s : ByteArray) (w : World) (hs : s.size ≤ 9223372036854775807) :
    Calls Tryd.prog 18 #[.string s] w fun e w' => LineOutS s e ∧ Only [] w w' := by
  go_enter Tryd.func18, Tryd.ntmps18
  go_wp2
  go_loop [8] (fun iv => ∃ k : Nat, k ≤ s.size ∧ iv = .int .i64 k ∧ Hid ((10 : UInt8) ∉ s.data.toList.take k)) (fun iv => s.size - (intOf iv).toNat)
  case atStart => exact ⟨0, Nat.zero_le _, rfl, by rw [List.take_zero]; exact List.not_mem_nil⟩
  case round =>
    obtain ⟨k, hk, rfl, hall⟩ := hrel
    by_cases hlt : k < s.size
    · obtain ⟨c, hc⟩ : ∃ c, c = s[k]'hlt := ⟨_, rfl⟩
      have hcd := get_of s k hlt
      rw [← hc] at hcd
      by_cases h10 : c = 10
      · have hbk : brk s.data.toList = some (s.data.toList.take k, s.data.toList.drop (k + 1)) := by
          conv => lhs; rw [takeS hcd, h10]
          exact brk_at _ _ hall.out
        have Hbk := hidF hbk
        have hcn : ((s[k]'hlt).toNat : Int) = 10 := by rw [← hc, h10]; rfl
        clear hc hcd hbk h10 hall
        match k, hk, hlt, Hbk, hcn with
        | 0, hk, hlt, Hbk, hcn =>
          have HF := hidF (show LineOutS s (.returned (.tuple #[.string ByteArray.empty, .string (s.extract 1 s.size), .bool true])) from .inr ⟨[], s.data.toList.drop 1, by rw [from_mkB]; rfl, by unfold lineS; rw [Hbk.out]; rfl⟩)
          go_wp2
          go_quiet (fail)
          go_wp2_with fail
          go_ret3
          exact ⟨HF.out, Only.drewN _ _ _⟩
        | j + 1, hk, hlt, Hbk, hcn =>
          have hjl : j < s.size := by omega
          have hch := chopS (get_of s j hjl)
          obtain ⟨d, hd⟩ : ∃ d, d = s[j]'hjl := ⟨_, rfl⟩
          rw [← hd] at hch
          by_cases h13 : d = 13
          · have hdn : ((s[j]'hjl).toNat : Int) = 13 := by rw [← hd, h13]; rfl
            rw [if_pos h13] at hch
            have HF := hidF (show LineOutS s (.returned (.tuple #[.string (s.extract 0 j), .string (s.extract (j + 1 + 1) s.size), .bool true])) from .inr ⟨s.data.toList.take j, s.data.toList.drop (j + 2), by rw [to_mkB, from_mkB], by unfold lineS; rw [Hbk.out]; simp [hch]⟩)
            clear hd h13 hch
            go_wp2
            go_quiet (fail)
            go_wp2_with fail
            go_ret3
            exact ⟨HF.out, Only.drewN _ _ _⟩
          · have hdn : (((s[j]'hjl).toNat : Int) == 13) = false := by
              rw [← hd]
              exact beq_eq_false_iff_ne.2 (fun e => h13 (UInt8.toNat_inj.1 (by have : (13 : UInt8).toNat = 13 := rfl; omega)))
            rw [if_neg h13] at hch
            have HF := hidF (show LineOutS s (.returned (.tuple #[.string (s.extract 0 (j + 1)), .string (s.extract (j + 1 + 1) s.size), .bool true])) from .inr ⟨s.data.toList.take (j + 1), s.data.toList.drop (j + 2), by rw [to_mkB, from_mkB], by unfold lineS; rw [Hbk.out]; simp [hch]⟩)
            clear hd h13 hch
            go_wp2
            go_quiet (fail)
            go_wp2_with fail
            go_ret3
            exact ⟨HF.out, Only.drewN _ _ _⟩
      · have hcn : (((s[k]'hlt).toNat : Int) == 10) = false := by
          rw [← hc]
          exact beq_eq_false_iff_ne.2 (fun e => h10 (UInt8.toNat_inj.1 (by have : (10 : UInt8).toNat = 10 := rfl; omega)))
        have HF := hidF (show (10 : UInt8) ∉ s.data.toList.take (k + 1) from by
          rw [List.take_add_one, hcd]
          simp only [Option.toList_some, List.mem_append, List.mem_singleton, not_or]
          exact ⟨hall.out, fun e => h10 e.symm⟩)
        clear hc hcd h10 hall
        go_wp2
        go_round
        case rel => exact ⟨k + 1, by omega, by go_num, HF.out⟩
        case measure => simp [intOf]; omega
    · obtain rfl : k = s.size := by omega
      have HF := hidF (show LineOutS s (.returned (.tuple #[.string ⟨#[]⟩, .string ⟨#[]⟩, .bool false])) from .inl ⟨rfl, by
        unfold lineS
        rw [brk_not]
        · rfl
        · have := hall.out
          rw [size_of_list, List.take_length] at this
          exact this⟩)
      clear hall
      go_wp2
      go_ret3
      exact ⟨HF.out, Only.refl _ _⟩
end Go.Proofs.YtddnjdapdcopgaaDoor
