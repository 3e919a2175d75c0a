/- FnPlainIsPrinted is proved. -/
import Derived.Test.YtolbedmmjennoaaDoorAddrString
import Derived.Test.YtolbedmmjennoaaDoorMade
import Derived.Deep.RegionHeld3
import Derived.Test.YtolbedmmjennoaaDoorShelf
import Derived.Lib.LaidU8T
import Derived.LaidMore
import Derived.Lay
import Derived.SevenTiedAt
import Derived.Stop.Joined
import Derived.Test.YtolbedmmjennoaaDoorCards
import Derived.Test.YtolbedmmjennoaaDoorTie
import Derived.WalkKit
import Derived.ProofKit
import Derived.OpenShut
import Derived.ShutString
import Derived.ChangeOld
import Derived.Below
namespace Go.Proofs.YtolbedmmjennoaaDoor.fnPlainIsPrinted
open Go.ChangeShapes Go.WideShapes Go.ChangeAt Go.RowKit
open Go.ChangeMaps (open_string shut_string)

theorem print_any (n l d ad : ByteArray) (w : World) (had : ad = l ++ ⟨#[64]⟩ ++ d) (hl : dottedL l.data.toList = true) (hd : dottedL d.data.toList = true) (hn : ∀ c ∈ n.data.toList, nameC c) (hsn : n.size ≤ 10000) (hsl : l.size ≤ 10000) (hsd : d.size ≤ 10000) :
    Calls Tryd.prog 7 #[.agg #[.string n, .string ad]] w fun e w' => e = .returned (.string (printed n ad)) ∧ Below w.heap.size w w' := by
  have hM : MAt (w.heap.size + 1) n ad ((w.alloc (.cells #[.string n, .string ad] 23)).alloc (.cells #[.string n, .string ad] 34)) := by
    have := MAt.made (w.alloc (.cells #[.string n, .string ad] 23)) n ad
    simpa using this
  have hcall := hidF (addrString_any _ n l d ad _ had hM hl hd hn hsn hsl hsd)
  clear had hl hd hn hM
  go_enter Tryd.func7, Tryd.ntmps7
  go_wp2_with fail
  refine hcall.out.mono ?_
  rintro e w1 ⟨rfl, hb⟩
  clear hcall
  go_wp2_with fail
  go_ret
  exact ⟨rfl, (((Below.refl w.heap.size w).alloc (Nat.le_refl _) _).alloc (by simp) _).trans (hb.mono (by first | omega | (simp; omega)))⟩

set_option maxHeartbeats 4000000 in
set_option maxRecDepth 10000 in
theorem walk (n l d : ByteArray) (w : World) (hn : n.size ≤ maxLen) (hl : l.size ≤ maxLen) (hd : d.size ≤ maxLen)
    (hT : Lib.Utf8Tabs 0 1 w) :
    Calls Tryd.prog 3 #[.string n, .string l, .string d] w fun e w' => e = .returned (.bool true) ∧ Below w.heap.size w w' := by
  unfold maxLen at hn hl hd
  by_cases hbig1 : 2147483647 < n.size
  · have e1 : (2147483647 : Int) < (n.size : Int) := by omega
    go_enter Tryd.func3, Tryd.ntmps3
    go_wp2_with fail
    go_ret
    exact ⟨rfl, Below.refl _ _⟩
  have e1 : ¬ (2147483647 : Int) < (n.size : Int) := by omega
  by_cases hbig2 : 2147483647 < l.size
  · have e2 : (2147483647 : Int) < (l.size : Int) := by omega
    go_enter Tryd.func3, Tryd.ntmps3
    go_wp2_with fail
    go_ret
    exact ⟨rfl, Below.refl _ _⟩
  have e2 : ¬ (2147483647 : Int) < (l.size : Int) := by omega
  by_cases hbig3 : 2147483647 < d.size
  · have e3 : (2147483647 : Int) < (d.size : Int) := by omega
    go_enter Tryd.func3, Tryd.ntmps3
    go_wp2_with fail
    go_ret
    exact ⟨rfl, Below.refl _ _⟩
  have e3 : ¬ (2147483647 : Int) < (d.size : Int) := by omega
  go_enter Tryd.func3, Tryd.ntmps3
  go_wp2_with fail
  refine (made_any n l d w (by omega) (by omega) (by omega) hT).mono ?_
  rintro e w1 ⟨hb, ⟨_, hdl, hdd, hsum, rfl⟩ | ⟨x, y, rfl⟩⟩
  · have Hl := hidF hdl
    have Hd := hidF hdd
    have hsz : (l ++ ⟨#[64]⟩ ++ d).size = l.size + 1 + d.size := by simp only [ByteArray.size_append]; rfl
    clear hdl hdd
    obtain ⟨ad, had⟩ : ∃ ad, ad = l ++ ⟨#[64]⟩ ++ d := ⟨_, rfl⟩
    rw [← had] at hsz ⊢
    have Had := hidF had
    clear had
    have hR := RAt.made w1 n ad
    have hbA := hb.alloc hb.size (.cells #[.string n, .string ad] 23)
    by_cases hn0 : n.size = 0
    · obtain rfl := empty_of n hn0
      have hp := hidF (print_any ⟨#[]⟩ l d ad (w1.alloc (.cells #[.string ⟨#[]⟩, .string ad] 23)) Had.out Hl.out Hd.out (fun c hc => by cases hc) (by decide) (by omega) (by omega))
      have HR := hidF hR
      clear hR
      have u1 : (⟨#[60]⟩ : ByteArray).size = 1 := rfl
      have u2 : (⟨#[62]⟩ : ByteArray).size = 1 := rfl
      have p1 : ∀ w, (Op.stringOp .add ⟨#[60]⟩ ad).run Tryd.prog w = .ok (.string (⟨#[60]⟩ ++ ad)) w := fun w => run_string_add_sum w _ _ (by omega)
      have p2 : ∀ w, (Op.stringOp .add (⟨#[60]⟩ ++ ad) ⟨#[62]⟩).run Tryd.prog w = .ok (.string (⟨#[60]⟩ ++ ad ++ ⟨#[62]⟩)) w := fun w => run_string_add_sum w _ _ (by rw [ByteArray.size_append]; omega)
      clear u1 u2
      go_wp2_with fail
      go_region_held3 (fun w' => w'.cell? ⟨w1.heap.size, 0, none⟩ = some (.string ⟨#[]⟩) ∧ w'.cell? ⟨w1.heap.size, 1, none⟩ = some (.string ad))
        (first | (go_split_ands; refine ⟨(hb2.cell (p := ⟨w1.heap.size, 0, none⟩) ?_).trans ?_, (hb2.cell (p := ⟨w1.heap.size, 1, none⟩) ?_).trans ?_⟩ <;> first | go_keep | (simp; done) | (simp; omega)) | go_keep)
        ((go_at_call 7; refine (print_any ⟨#[]⟩ l d ad _ Had.out Hl.out Hd.out (fun c hc => by cases hc) (by decide) (by omega) (by omega)).mono ?_; rintro e w2 ⟨rfl, hb2⟩))
      go_wp2_with fail
      go_ret
      exact ⟨by simp [printed_none, angle], hbA.drew.trans (hb2.mono hbA.size)⟩
    · have e0 := not_empty n hn0
      have HR := hidF hR
      clear hR
      go_wp2_with fail
      go_loopw [44] (fun iv wr => ∃ k : Nat, k ≤ n.size ∧ iv = .int .i64 k ∧ Hid (∀ c ∈ n.data.toList.take k, nameC c) ∧ wr = w1.alloc (.cells #[.string n, .string ad] 23)) (fun iv _ => n.size - (intOf iv).toNat)
      case atStart => exact ⟨0, Nat.zero_le _, rfl, hidF (fun c hc => by rw [List.take_zero] at hc; cases hc), rfl⟩
      case round =>
        obtain ⟨k, hk, rfl, hnm, rfl⟩ := hrel
        by_cases hlt : k < n.size
        · have hz : (k : Int) < (n.size : Int) := by omega
          have hnext : nameC n[k] → Hid (∀ c ∈ n.data.toList.take (k + 1), nameC c) := fun hc => hidF (by
            rw [List.take_add_one, get_of n k hlt]
            intro c h
            rcases List.mem_append.1 h with h | h
            · exact hnm.out c h
            · have : c = n[k] := by simpa using h
              rw [this]; exact hc)
          have Hnext := hidF hnext
          clear hnext
          by_cases hA : 48 ≤ n[k].toNat ∧ n[k].toNat ≤ 57
          · have g1 : (48 : Int) ≤ (n[k].toNat : Int) := by omega
            have g2 : (n[k].toNat : Int) ≤ 57 := by omega
            have hc := Hnext.out (.inl hA)
            clear hA Hnext
            go_wp2_with fail
            go_roundw
            case rel => exact ⟨k + 1, hlt, by go_num, hc, trivial⟩
            case measure => simp [intOf]; omega
          by_cases hB : 97 ≤ n[k].toNat ∧ n[k].toNat ≤ 122
          · have g1 : (48 : Int) ≤ (n[k].toNat : Int) := by omega
            have g2 : decide ((n[k].toNat : Int) ≤ 57) = false := decide_eq_false (by omega)
            have g3 : (97 : Int) ≤ (n[k].toNat : Int) := by omega
            have g4 : (n[k].toNat : Int) ≤ 122 := by omega
            have hc := Hnext.out (.inr (.inl hB))
            clear hA hB Hnext
            go_wp2_with fail
            go_roundw
            case rel => exact ⟨k + 1, hlt, by go_num, hc, trivial⟩
            case measure => simp [intOf]; omega
          by_cases hC : 65 ≤ n[k].toNat ∧ n[k].toNat ≤ 90
          · have g1 : (48 : Int) ≤ (n[k].toNat : Int) := by omega
            have g2 : decide ((n[k].toNat : Int) ≤ 57) = false := decide_eq_false (by omega)
            have g3 : decide ((97 : Int) ≤ (n[k].toNat : Int)) = false := decide_eq_false (by omega)
            have g4 : (65 : Int) ≤ (n[k].toNat : Int) := by omega
            have g5 : (n[k].toNat : Int) ≤ 90 := by omega
            have hc := Hnext.out (.inr (.inr (.inl hC)))
            clear hA hB hC Hnext
            go_wp2_with fail
            go_roundw
            case rel => exact ⟨k + 1, hlt, by go_num, hc, trivial⟩
            case measure => simp [intOf]; omega
          by_cases hD : n[k].toNat = 32
          · have hc := Hnext.out (.inr (.inr (.inr hD)))
            have hD' : (n[k].toNat : Int) = 32 := by omega
            clear hA hB hC Hnext
            cases k with
            | zero =>
              go_wp2_with fail
              go_ret
              exact ⟨rfl, hbA⟩
            | succ j =>
              have q3 : (0 : Int) < (j : Int) + 1 := by omega
              have hj : j < n.size := by omega
              by_cases hlast : j + 1 + 1 < n.size
              · have q4 : (j : Int) + 1 < (n.size : Int) - 1 := by omega
                by_cases hp32 : n[j].toNat = 32
                · have q5 : ((n[j].toNat : Int) != 32) = false := by rw [hp32]; rfl
                  clear hc
                  go_wp2_with fail
                  go_ret
                  exact ⟨rfl, hbA⟩
                · have q5 : ((n[j].toNat : Int) != 32) = true := bne_iff_ne.2 (by omega)
                  clear hp32
                  go_wp2_with fail
                  go_roundw
                  case rel => exact ⟨j + 1 + 1, hlt, by go_num, hc, trivial⟩
                  case measure => simp [intOf]; omega
              · have q4 : ¬ (j : Int) + 1 < (n.size : Int) - 1 := by omega
                clear hc
                go_wp2_with fail
                go_ret
                exact ⟨rfl, hbA⟩
          have g6 : ((n[k].toNat : Int) == 32) = false := beq_eq_false_iff_ne.2 (by omega)
          clear Hnext hnm
          by_cases h48 : n[k].toNat < 48
          · have g1 : decide ((48 : Int) ≤ (n[k].toNat : Int)) = false := decide_eq_false (by omega)
            have g3 : decide ((97 : Int) ≤ (n[k].toNat : Int)) = false := decide_eq_false (by omega)
            have g4 : decide ((65 : Int) ≤ (n[k].toNat : Int)) = false := decide_eq_false (by omega)
            clear hA hB hC hD h48
            go_wp2_with fail
            go_ret
            exact ⟨rfl, hbA⟩
          by_cases h65 : n[k].toNat < 65
          · have g1 : (48 : Int) ≤ (n[k].toNat : Int) := by omega
            have g2 : decide ((n[k].toNat : Int) ≤ 57) = false := decide_eq_false (by omega)
            have g3 : decide ((97 : Int) ≤ (n[k].toNat : Int)) = false := decide_eq_false (by omega)
            have g4 : decide ((65 : Int) ≤ (n[k].toNat : Int)) = false := decide_eq_false (by omega)
            clear hA hB hC hD h48 h65
            go_wp2_with fail
            go_ret
            exact ⟨rfl, hbA⟩
          by_cases h97 : n[k].toNat < 97
          · have g1 : (48 : Int) ≤ (n[k].toNat : Int) := by omega
            have g2 : decide ((n[k].toNat : Int) ≤ 57) = false := decide_eq_false (by omega)
            have g3 : decide ((97 : Int) ≤ (n[k].toNat : Int)) = false := decide_eq_false (by omega)
            have g4 : (65 : Int) ≤ (n[k].toNat : Int) := by omega
            have g5 : decide ((n[k].toNat : Int) ≤ 90) = false := decide_eq_false (by omega)
            clear hA hB hC hD h48 h65 h97
            go_wp2_with fail
            go_ret
            exact ⟨rfl, hbA⟩
          · have g1 : (48 : Int) ≤ (n[k].toNat : Int) := by omega
            have g2 : decide ((n[k].toNat : Int) ≤ 57) = false := decide_eq_false (by omega)
            have g3 : (97 : Int) ≤ (n[k].toNat : Int) := by omega
            have g7 : decide ((n[k].toNat : Int) ≤ 122) = false := decide_eq_false (by omega)
            have g4 : (65 : Int) ≤ (n[k].toNat : Int) := by omega
            have g5 : decide ((n[k].toNat : Int) ≤ 90) = false := decide_eq_false (by omega)
            clear hA hB hC hD h48 h65 h97
            go_wp2_with fail
            go_ret
            exact ⟨rfl, hbA⟩
        · have hz : ¬ (k : Int) < (n.size : Int) := by omega
          have hks : k = n.size := by omega
          have hall : ∀ c ∈ n.data.toList, nameC c := by
            have := hnm.out
            rw [hks, size_of_list n, List.take_length] at this
            exact this
          have u1 : (⟨#[34]⟩ : ByteArray).size = 1 := rfl
          have u2 : (⟨#[34, 32, 60]⟩ : ByteArray).size = 3 := rfl
          have u3 : (⟨#[62]⟩ : ByteArray).size = 1 := rfl
          have p1 : ∀ w, (Op.stringOp .add ⟨#[34]⟩ n).run Tryd.prog w = .ok (.string (⟨#[34]⟩ ++ n)) w := fun w => run_string_add_sum w _ _ (by omega)
          have p2 : ∀ w, (Op.stringOp .add (⟨#[34]⟩ ++ n) ⟨#[34, 32, 60]⟩).run Tryd.prog w = .ok (.string (⟨#[34]⟩ ++ n ++ ⟨#[34, 32, 60]⟩)) w := fun w => run_string_add_sum w _ _ (by simp only [ByteArray.size_append]; omega)
          have p3 : ∀ w, (Op.stringOp .add (⟨#[34]⟩ ++ n ++ ⟨#[34, 32, 60]⟩) ad).run Tryd.prog w = .ok (.string (⟨#[34]⟩ ++ n ++ ⟨#[34, 32, 60]⟩ ++ ad)) w := fun w => run_string_add_sum w _ _ (by simp only [ByteArray.size_append]; omega)
          have p4 : ∀ w, (Op.stringOp .add (⟨#[34]⟩ ++ n ++ ⟨#[34, 32, 60]⟩ ++ ad) ⟨#[62]⟩).run Tryd.prog w = .ok (.string (⟨#[34]⟩ ++ n ++ ⟨#[34, 32, 60]⟩ ++ ad ++ ⟨#[62]⟩)) w := fun w => run_string_add_sum w _ _ (by simp only [ByteArray.size_append]; omega)
          have hfinal := hidF (show printed n ad = ⟨#[34]⟩ ++ n ++ ⟨#[34, 32, 60]⟩ ++ ad ++ ⟨#[62]⟩ by
            rw [printed_name n ad hn0]
            unfold angle
            apply ByteArray.ext
            apply Array.ext'
            simp only [append_list]
            simp)
          have Hall := hidF hall
          clear u1 u2 u3 hnm hks hall
          go_wp2_with fail
          go_region_held3 (fun w' => w'.cell? ⟨w1.heap.size, 0, none⟩ = some (.string n) ∧ w'.cell? ⟨w1.heap.size, 1, none⟩ = some (.string ad))
            (first | (go_split_ands; refine ⟨(hb2.cell (p := ⟨w1.heap.size, 0, none⟩) ?_).trans ?_, (hb2.cell (p := ⟨w1.heap.size, 1, none⟩) ?_).trans ?_⟩ <;> first | go_keep | (simp; done) | (simp; omega)) | go_keep)
            ((go_at_call 7; refine (print_any n l d ad _ Had.out Hl.out Hd.out Hall.out (by omega) (by omega) (by omega)).mono ?_; rintro e w2 ⟨rfl, hb2⟩))
          go_wp2_with fail
          go_ret
          exact ⟨by rw [hfinal.out]; simp, hbA.drew.trans (hb2.mono hbA.size)⟩
  · go_wp2_with fail
    go_ret
    exact ⟨rfl, hb.alloc hb.size _⟩

theorem own : ownKnob Tryd.prog.godebug = none := by kernel_rfl
theorem firstIs : Rows.laid_unicode_utf8_first = Lib.firstData := by kernel_rfl
theorem acceptIs : (Rows.laid_unicode_utf8_acceptRanges : DataW Unit) = Lib.acceptData := by kernel_rfl

theorem tabs_of {W : World} (h : laidMetH Tryd.prog Rows.fnPlainIsPrintedRow.laid W) : Lib.Utf8Tabs 0 1 W := by
  rw [MakeChecks.laidMetH_plain _ _ _ (by kernel_rfl)] at h
  have h1 := Lib.laidMet.reads h (n := "unicode/utf8.acceptRanges") (List.mem_of_getElem? (show Rows.fnPlainIsPrintedRow.laid[0]? = some ("unicode/utf8.acceptRanges", Rows.laid_unicode_utf8_acceptRanges) from rfl))
  have h2 := Lib.laidMet.reads h (n := "unicode/utf8.first") (List.mem_of_getElem? (show Rows.fnPlainIsPrintedRow.laid[4]? = some ("unicode/utf8.first", Rows.laid_unicode_utf8_first) from rfl))
  rw [acceptIs] at h1
  rw [firstIs] at h2
  exact utf8Tabs_of_readsT (U8Types.of196 Tryd.laysValid) ⟨by kernel_rfl, by kernel_rfl, by kernel_rfl, by kernel_rfl, by kernel_rfl, by kernel_rfl, by kernel_rfl⟩ h2 h1

theorem door_met (os : Os) (args : Array Value) : laidMetH Tryd.prog Rows.fnPlainIsPrintedRow.laid ((World.laidAll Tryd.prog os Rows.fnPlainIsPrintedRow.laid).forCall (fun _ _ => 0) ⟨#[], args, []⟩).memory := by
  rw [MakeChecks.laidMetH_plain _ _ _ (by kernel_rfl)]
  exact laidMet_laidAll _ (by kernel_rfl) (by kernel_rfl)

set_option maxRecDepth 100000 in
theorem lifted (os : Os) (started : os.Started) (H : Type) (enc : TypeId × Value → H) :
    ReturnsInHanded {} Tryd.checked os 3 .any (fun w args => (Rows.fnPlainIsPrintedSpec.pre enc Tryd.prog Tryd.f3 Rows.fnPlainIsPrintedRow.domain false w args ∧ laidMetH Tryd.prog Rows.fnPlainIsPrintedRow.laid w) ∧ sizedMet enc Tryd.prog Tryd.f3 (OpenSpec.ofChange Rows.fnPlainIsPrintedSpec) false w args)
      (Rows.fnPlainIsPrintedSpec.post enc Tryd.prog Tryd.f3 false true false false) := by
  refine returnsInHanded_of_change_and (C := Tryd.checked) (X := fun w _ => laidMetH Tryd.prog Rows.fnPlainIsPrintedRow.laid w) (fun _ _ _ hh h => h.of_heap hh) own started (by kernel_rfl) Tryd.func3
    (ChangeSpec.witness_shaped (enc := enc) (C := Tryd.checked) (os := os) (X := fun w _ => laidMetH Tryd.prog Rows.fnPlainIsPrintedRow.laid w) false (World.laidAll Tryd.prog os Rows.fnPlainIsPrintedRow.laid) #[.string ByteArray.empty, .string ByteArray.empty, .string ByteArray.empty] 8 (World.laidAll_os _ _ _)
      (World.shaped_of_ZipB (by kernel_rfl) (by kernel_rfl)) (by kernel_rfl) (by kernel_rfl) (by kernel_rfl) (door_met os _)) ?_
  intro W base args ds gs before hval0 hW hc _ hL _
  have hval : ∀ (j : Nat) t v, Tryd.f3.params[j]? = some t → args[j]? = some v → Value.okWide Tryd.prog W .any base t v := hval0
  have hW' := hW
  obtain ⟨p, q, hA0, hV, rfl, hfz, hnd⟩ := hW
  have hA : DataW.TrodAll enc Tryd.prog W 0 (fun _ => true) true Tryd.f3.params.toList args.toList ds p := hA0
  rw [Tryd.params3] at hA hval
  obtain ⟨v0, vs0, d0, ds0, p0, q0, hargs, rfl, rfl, h0, r0⟩ := trodAll_cons hA
  obtain ⟨v1, vs1, d1, ds1, p1, q1, rfl, rfl, rfl, h1, r1⟩ := trodAll_cons r0
  obtain ⟨v2, vs2, d2, ds2, p2, q2, rfl, rfl, rfl, h2, r2⟩ := trodAll_cons r1
  obtain ⟨rfl, rfl, rfl⟩ := trodAll_nil r2
  obtain rfl : args = #[v0, v1, v2] := by cases args; simp_all
  obtain ⟨rfl, rfl⟩ := trodVars_none hV
  obtain ⟨a0, rfl, rfl, rfl, w0⟩ := open_string Tryd.underlying9 (hval 0 9 v0 rfl rfl) h0
  obtain ⟨a1, rfl, rfl, rfl, w1⟩ := open_string Tryd.underlying9 (hval 1 9 v1 rfl rfl) h1
  obtain ⟨a2, rfl, rfl, rfl, w2⟩ := open_string Tryd.underlying9 (hval 2 9 v2 rfl rfl) h2
  clear hA0 hval0
  refine (walk a0 a1 a2 W w0 w1 w2 (tabs_of hL)).mono fun e W' ⟨he, bel⟩ => ?_
  subst he
  exact ⟨_, rfl, _, _, _, [], _, [], hW', trodAll_mk1 (shut_bool Tryd.underlying4 _), (trodAll_cons_mk (shut_string Tryd.underlying9 w0) (trodAll_cons_mk (shut_string Tryd.underlying9 w1) (trodAll_cons_mk (shut_string Tryd.underlying9 w2) trodAll_mk0))), rfl, bel.frame _, fun h => by cases h⟩

theorem over : Rows.FnPlainIsPrintedSaid :=
  OpenClaim.holds_of_wide 3 Tryd.f3 rfl rfl rfl rfl rfl rfl rfl ⟨rfl, rfl, rfl, rfl, rfl⟩ rfl rfl rfl rfl rfl (by kernel_rfl) Tryd.func3 (by kernel_rfl)
    (of_decide_eq_true (by kernel_rfl)) (by unfold Func.isWrapper; first | (rw [if_pos (by decide +kernel)]; kernel_rfl) | (rw [if_neg (by decide +kernel)]; exact ⟨rfl, rfl⟩))
    (fun os started H enc _ => lifted os started H enc)

theorem proved : Rows.FnPlainIsPrintedCardSaid :=
  Claim7.holds_tied_plain_at .later [] [.data, .data, .data, .pinned, .pinned] true (true, "623653c3862542c578090f3ba4d206ab7e9ce16c1c165c77fcbdabf2ef7e2d24") false over (fun _ h => by cases h) (by kernel_rfl) (fun _ h => by cases h) fnPlainIsPrinted_row_tie rfl ⟨rfl, rfl⟩ (by kernel_rfl) rfl
    (fun f fn hf hfn => by
      obtain rfl : f = 3 := Option.some.inj ((show Tryd.prog.funcNamed "mailtexts/laws.FnPlainIsPrinted" = some 3 by kernel_rfl).symm.trans hf) |>.symm
      obtain rfl : fn = Tryd.f3 := (Option.some.inj (Tryd.func3.symm.trans hfn)).symm
      exact ⟨by kernel_rfl, fun j t ht => by
        rw [Tryd.params3] at ht
        have hm := Array.mem_of_getElem? ht
        have hall : (([9, 9, 9] : List TypeId).all fun u => !Tryd.prog.wantsStandIn u) = true := by kernel_rfl
        exact (show Tryd.prog.wantsStandIn t = false by simpa using List.all_eq_true.1 hall t (by simpa using hm))⟩)
    (by kernel_rfl)
#print axioms proved
end Go.Proofs.YtolbedmmjennoaaDoor.fnPlainIsPrinted

