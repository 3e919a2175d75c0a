/- (*Address).String over an address of atoms with points, without a name or with a plain one: the walk. -/
import Derived.Test.YtolbedmmjennoaaDoorAddrText
import Derived.Test.YtolbedmmjennoaaDoorQuote
import Derived.BigQuiet
namespace Go.Proofs.YtolbedmmjennoaaDoor
open Go.RowKit

/-- An address's block. -/
def MAt (b : Nat) (n ad : ByteArray) (w : World) : Prop := w.heap[b]? = some (.cells #[.string n, .string ad] 34 (0, 0))
theorem MAt.cell0 {b : Nat} {x y : ByteArray} {w : World} (h : MAt b x y w) : w.cell? ⟨b, 0, none⟩ = some (.string x) := by
  unfold MAt at h; simp [World.cell?, h]
theorem MAt.cell1 {b : Nat} {x y : ByteArray} {w : World} (h : MAt b x y w) : w.cell? ⟨b, 1, none⟩ = some (.string y) := by
  unfold MAt at h; simp [World.cell?, h]
theorem MAt.lt {b : Nat} {x y : ByteArray} {w : World} (h : MAt b x y w) : b < w.heap.size := (Array.getElem?_eq_some_iff.1 h).1
theorem MAt.below {B b : Nat} {x y : ByteArray} {w w' : World} (h : MAt b x y w) (k : Below B w w') (hb : b < B) : MAt b x y w' := (k.block b hb).trans h
theorem MAt.made (w : World) (x y : ByteArray) : MAt w.heap.size x y (w.alloc (.cells #[.string x, .string y] 34)) := heap_alloc_new w _

/-- A letter, a digit, or a blank. -/
def nameC (c : UInt8) : Prop := (48 ≤ c.toNat ∧ c.toNat ≤ 57) ∨ (97 ≤ c.toNat ∧ c.toNat ≤ 122) ∨ (65 ≤ c.toNat ∧ c.toNat ≤ 90) ∨ c.toNat = 32

/-- The address in angle brackets. -/
def angle (ad : ByteArray) : ByteArray := ⟨#[60]⟩ ++ ad ++ ⟨#[62]⟩
/-- An address as String prints it. -/
def printed (n ad : ByteArray) : ByteArray := if n.size = 0 then angle ad else ⟨#[34]⟩ ++ n ++ ⟨#[34, 32]⟩ ++ angle ad
theorem printed_none (ad : ByteArray) : printed ⟨#[]⟩ ad = angle ad := rfl
theorem printed_name (n ad : ByteArray) (h : ¬ n.size = 0) : printed n ad = ⟨#[34]⟩ ++ n ++ ⟨#[34, 32]⟩ ++ angle ad := if_neg h

theorem isMultibyte_any (r : Int) (w : World) :
    Calls Tryd.prog 23 #[.int .i32 r] w fun e w' => e = .returned (.bool (decide (128 ≤ r))) ∧ w = w' := by
  go_enter Tryd.func23, Tryd.ntmps23
  go_wp2
  go_ret
  exact ⟨rfl, rfl⟩

theorem nameC_ok (c : UInt8) (h : nameC c) : c.toNat < 128 ∧ noCtl c ∧ c ≠ 34 ∧ c ≠ 92 ∧ (vcharI (c.toNat : Int) || wspI (c.toNat : Int)) = true := by
  unfold nameC at h
  have h1 : c.toNat < 128 := by omega
  have h2 : noCtl c := ⟨by omega, by omega⟩
  refine ⟨h1, h2, ?_, ?_, vchar_ascii c h2 h1⟩
  · intro e; rw [e] at h; revert h; decide
  · intro e; rw [e] at h; revert h; decide

theorem name_valid (n : ByteArray) (h : ∀ c ∈ n.data.toList, nameC c) : Lib.validD n.data.toList = true := by
  rw [Lib.validD_ascii n.data.toList.length n.data.toList (fun b hb => (nameC_ok b (h b (by rw [List.take_length] at hb; exact hb))).1), List.drop_length]
  rfl

theorem angle_eq (l d ad : ByteArray) (h : ad = l ++ ⟨#[64]⟩ ++ d) : ⟨#[60]⟩ ++ l ++ ⟨#[64]⟩ ++ d ++ ⟨#[62]⟩ = angle ad := by
  unfold angle
  rw [h]
  simp only [ByteArray.append_assoc]

theorem named_eq (n l d ad : ByteArray) (h : ad = l ++ ⟨#[64]⟩ ++ d) : mkB (34 :: (n.data.toList ++ [34])) ++ ⟨#[32]⟩ ++ (⟨#[60]⟩ ++ l ++ ⟨#[64]⟩ ++ d ++ ⟨#[62]⟩) = ⟨#[34]⟩ ++ n ++ ⟨#[34, 32]⟩ ++ angle ad := by
  rw [angle_eq l d ad h]
  apply ByteArray.ext
  apply Array.ext'
  simp only [append_list, mkB_list]
  simp

theorem not_empty (n : ByteArray) (h : ¬ n.size = 0) : n.toList.isEmpty = false := by
  rw [Lib.toList_data]
  cases hx : n.data.toList with
  | nil => exact absurd (by rw [size_of_list, hx]; rfl) h
  | cons c r => rfl

theorem empty_of (n : ByteArray) (h : n.size = 0) : n = ⟨#[]⟩ := by
  obtain ⟨d⟩ := n
  have : d = #[] := Array.eq_empty_of_size_eq_zero h
  rw [this]

set_option maxHeartbeats 4000000 in
set_option maxRecDepth 100000 in
theorem addrString_any (b : Nat) (n l d ad : ByteArray) (w : World) (had : ad = l ++ ⟨#[64]⟩ ++ d) (hM : MAt b n ad w) (hl : dottedL l.data.toList = true) (hd : dottedL d.data.toList = true) (hn : ∀ c ∈ n.data.toList, nameC c) (hsn : n.size ≤ 10000) (hsl : l.size ≤ 10000) (hsd : d.size ≤ 10000) :
    Calls Tryd.prog 13 #[.pointer (some ⟨b, 0, none⟩)] w fun e w' => e = .returned (.string (printed n ad)) ∧ Below w.heap.size w w' := by
  have hlt := hM.lt
  have c0 := hM.cell0
  have c1 := hM.cell1
  have hat := hidF (Tryd.strings_LastIndex_one ad ⟨#[64]⟩ rfl (by rw [had]; simp only [ByteArray.size_append]; have : (⟨#[64]⟩ : ByteArray).size = 1 := rfl; omega) w)
  have hix := hidF (show Lib.lastIndexByte ad 64 = (l.size : Int) by rw [had]; exact at_place l d hd)
  have hx1 := hidF (show ad.extract 0 l.size = l by rw [had]; exact addr_local l d)
  have hx2 := hidF (show ad.extract (l.size + 1) ad.size = d by rw [had]; exact addr_domain l d)
  have hsz := hidF (show ad.size = l.size + 1 + d.size by rw [had]; simp only [ByteArray.size_append]; rfl)
  have Hl := hidF hl
  have Hn := hidF hn
  have Had := hidF had
  clear hl hd hn had hM
  go_enter Tryd.func13, Tryd.ntmps13
  go_wp2_with fail
  refine hat.out.mono ?_
  rintro e w1 ⟨rfl, rfl⟩
  rw [show (((⟨#[64]⟩ : ByteArray)[0]'(by decide)).toNat : Int) = 64 from rfl, hix.out]
  have g0 : ¬ (l.size : Int) < 0 := by omega
  have g1 : (l.size : Int) ≤ (ad.size : Int) := by have := hsz.out; omega
  have g2 : (l.size : Int) + 1 ≤ (ad.size : Int) := by have := hsz.out; omega
  go_wp2_with fail
  replace hx1 := hx1.out
  replace hx2 := hx2.out
  go_quiet (fail)
  clear hx1 hx2 g1 g2
  go_wp2_with fail
  go_loopw [6] (fun qv wr => ∃ k : Nat, k ≤ l.size ∧ qv = .bool false ∧ wr.heap[w1.heap.size]? = some (.stringIter l k) ∧ Below w1.heap.size w1 wr) (fun _ wr => l.size - wr.iterPos w1.heap.size)
  case atStart =>
    refine ⟨0, Nat.zero_le _, rfl, ?_, ?_⟩
    · have := World.iter_heap (w1.drewN nq) l 0
      simpa using this
    · exact (below_drewN (Below.refl w1.heap.size w1) nq).alloc (by simp) _
  case round =>
    obtain ⟨k, hk, rfl, hit, hb⟩ := hrel
    by_cases hp : k < l.size
    · have hgk := get_of l k hp
      have hok := dotStep_ok _ true Hl.out l[k] (List.mem_of_getElem? hgk)
      have hnx : ∀ ty, (Instr.next (.pointer (some ⟨w1.heap.size, 0, none⟩)) true ty).run Tryd.prog wr = _ := fun ty => Lib.run_next_ascii_at wr w1.heap.size l k ty hit hp hok.2
      have hit2 := Lib.iterAt_heap wr w1.heap.size l k (k + 1) hit
      have hb2 := Lib.below_iterAt hb (k := w1.heap.size) (Nat.le_refl _) l (k + 1)
      have Hit := hidF hit
      have hatx := hidF (isAtext_any (l[k].toNat : Int) false (wr.iterAt w1.heap.size l (k + 1)))
      rw [atext_ok false l[k] hok.2] at hatx
      by_cases h46 : l[k] = 46
      · have hdp := dot_place _ true Hl.out k (by rw [hgk, h46])
        obtain ⟨j, rfl⟩ : ∃ j, k = j + 1 := by
          cases k with
          | zero => exact absurd (hdp.1 rfl) (by simp)
          | succ j => exact ⟨j, rfl⟩
        have hj : j < l.size := by omega
        have hne : l[j] ≠ 46 := fun e => hdp.2.1 j rfl (by rw [get_of l j hj, e])
        have hlt2 : j + 1 + 1 < l.size := by have := hdp.2.2; rw [← size_of_list] at this; exact this
        rw [show okC false l[j + 1] = false by rw [h46]; rfl] at hatx
        have q0 : ((l[j + 1].toNat : Int) == 46) = true := by rw [h46]; rfl
        have q1 : ((l[j].toNat : Int) != 46) = true := bne_iff_ne.2 (fun e => hne (UInt8.toNat_inj.1 (by have : (46 : UInt8).toNat = 46 := rfl; omega)))
        have q2 : (j : Int) + 1 < (l.size : Int) - 1 := by omega
        have q3 : (0 : Int) < (j : Int) + 1 := by omega
        clear h46 hok hgk hit hdp hne
        go_wp2_with fail
        refine hatx.out.mono ?_
        rintro e w3 ⟨rfl, rfl⟩
        clear hatx
        go_wp2_with fail
        go_roundw
        case rel => exact ⟨j + 1 + 1, by omega, rfl, hit2, hb2⟩
        case measure =>
          simp only [World.iterPos, hit2, Hit.out]
          omega
      · have hac : okC false l[k] = true := by
          have := hok.1
          simp [okC, dotC, h46] at this
          exact this
        rw [hac] at hatx
        clear h46 hac hok hgk hit
        go_wp2_with fail
        refine hatx.out.mono ?_
        rintro e w3 ⟨rfl, rfl⟩
        clear hatx
        go_wp2_with fail
        go_roundw
        case rel => exact ⟨k + 1, by omega, rfl, hit2, hb2⟩
        case measure =>
          simp only [World.iterPos, hit2, Hit.out]
          omega
    · have hnx : ∀ ty, (Instr.next (.pointer (some ⟨w1.heap.size, 0, none⟩)) true ty).run Tryd.prog wr = _ := fun ty => Lib.run_next_end_at wr w1.heap.size l k ty hit hp
      have k0 : wr.cell? ⟨b, 0, none⟩ = some (.string n) := by rw [hb.cell (p := ⟨b, 0, none⟩) hlt]; exact c0
      have n1 : ¬ 9223372036854775807 < 1 + l.size := by omega
      have n2 : ¬ 9223372036854775807 < 1 + l.size + 1 := by omega
      have n3 : ¬ 9223372036854775807 < 1 + l.size + 1 + d.size := by omega
      have n4 : ¬ 9223372036854775807 < 1 + l.size + 1 + d.size + 1 := by omega
      by_cases hn0 : n.size = 0
      · obtain rfl := empty_of n hn0
        go_wp2_with fail
        go_ret
        exact ⟨by rw [angle_eq l d ad Had.out, printed_none]; rfl, hb⟩
      · have e0 := not_empty n hn0
        clear hit
        go_wp2_with fail
        have hbn : Below w1.heap.size w1 (wr.iter n 0) := hb.alloc hb.size _
        have hzr := hb.size
        have hk0 := hidF k0
        clear k0
        rename World => w2
        go_loopw [10] (fun qv wq => ∃ k : Nat, k ≤ n.size ∧ qv = .bool true ∧ wq.heap[w2.heap.size]? = some (.stringIter n k) ∧ Below w1.heap.size w1 wq) (fun _ wq => n.size - wq.iterPos w2.heap.size)
        case atStart => exact ⟨0, Nat.zero_le _, rfl, World.iter_heap w2 n 0, hbn⟩
        case round =>
          obtain ⟨k, hk, rfl, hit, hb3⟩ := hrel
          by_cases hp : k < n.size
          · have hgk := get_of n k hp
            have hok := nameC_ok n[k] (Hn.out n[k] (List.mem_of_getElem? hgk))
            have hnx : ∀ ty, (Instr.next (.pointer (some ⟨w2.heap.size, 0, none⟩)) true ty).run Tryd.prog wr = _ := fun ty => Lib.run_next_ascii_at wr w2.heap.size n k ty hit hp hok.1
            have hit2 := Lib.iterAt_heap wr w2.heap.size n k (k + 1) hit
            have hb4 := Lib.below_iterAt hb3 (k := w2.heap.size) hzr n (k + 1)
            have Hit := hidF hit
            have hvc := hidF (isVchar_any (n[k].toNat : Int) (wr.iterAt w2.heap.size n (k + 1)))
            have hws := hidF (isWSP_any (n[k].toNat : Int) (wr.iterAt w2.heap.size n (k + 1)))
            have hmb := hidF (isMultibyte_any (n[k].toNat : Int) (wr.iterAt w2.heap.size n (k + 1)))
            rw [decide_eq_false (by have := hok.1; omega)] at hmb
            have hor := hok.2.2.2.2
            clear hgk hok hit
            cases hq : vcharI (n[k].toNat : Int) with
            | true =>
              rw [hq] at hvc
              clear hq hor hws
              go_wp2_with fail
              refine hvc.out.mono ?_
              rintro e w3 ⟨rfl, rfl⟩
              go_wp2_with fail
              refine hmb.out.mono ?_
              rintro e w3 ⟨rfl, rfl⟩
              clear hvc hmb
              go_wp2_with fail
              go_roundw
              case rel => exact ⟨k + 1, by omega, rfl, hit2, hb4⟩
              case measure =>
                simp only [World.iterPos, hit2, Hit.out]
                omega
            | false =>
              rw [hq, Bool.false_or] at hor
              rw [hq] at hvc
              rw [hor] at hws
              clear hq hor
              go_wp2_with fail
              refine hvc.out.mono ?_
              rintro e w3 ⟨rfl, rfl⟩
              go_wp2_with fail
              refine hws.out.mono ?_
              rintro e w3 ⟨rfl, rfl⟩
              go_wp2_with fail
              refine hmb.out.mono ?_
              rintro e w3 ⟨rfl, rfl⟩
              clear hvc hmb hws
              go_wp2_with fail
              go_roundw
              case rel => exact ⟨k + 1, by omega, rfl, hit2, hb4⟩
              case measure =>
                simp only [World.iterPos, hit2, Hit.out]
                omega
          · have hnx : ∀ ty, (Instr.next (.pointer (some ⟨w2.heap.size, 0, none⟩)) true ty).run Tryd.prog wr = _ := fun ty => Lib.run_next_end_at wr w2.heap.size n k ty hit hp
            have k1 : wr.cell? ⟨b, 0, none⟩ = some (.string n) := by rw [hb3.cell (p := ⟨b, 0, none⟩) hlt]; exact c0
            have hq := hidF (quoteString_any n wr (by omega) (name_valid n Hn.out) (fun c hc => (nameC_ok c (Hn.out c hc)).2.1))
            clear hit
            go_wp2_with fail
            refine hq.out.mono ?_
            rintro e w4 ⟨q, rfl, ⟨_, hqe⟩, _, hb5⟩
            obtain rfl := hqe (fun c hc => ⟨(nameC_ok c (Hn.out c hc)).2.2.1, (nameC_ok c (Hn.out c hc)).2.2.2.1⟩)
            clear hqe hq
            have m0 := hidF ((printed_name n ad hn0).trans (named_eq n l d ad Had.out).symm)
            have m1 : ¬ 9223372036854775807 < (mkB (34 :: (n.data.toList ++ [34]))).size + 1 := by rw [size_mkB]; simp; omega
            have m2 : ¬ 9223372036854775807 < (mkB (34 :: (n.data.toList ++ [34]))).size + 1 + (1 + l.size + 1 + d.size + 1) := by rw [size_mkB]; simp; omega
            go_wp2_with fail
            go_ret
            exact ⟨by rw [m0.out]; rfl, hb3.trans (hb5.mono hb3.size)⟩
end Go.Proofs.YtolbedmmjennoaaDoor
