/- laws.FnMessage: the walk. -/
import Derived.Test.YtddnjdapdcopgaaDoorSame
import Derived.Test.YtddnjdapdcopgaaDoorSpecM
import Derived.Test.YtddnjdapdcopgaaDoorFields
namespace Go.Proofs.YtddnjdapdcopgaaDoor
open Go.RowKit

/-- The two lists of fields are one. -/
theorem fields_one {L M fs parts : List (ByteArray × ByteArray)} {data rest fin : List UInt8} {k : Nat} (h : FirstR data fs k fin) (hm : MsgR [] data (.good parts rest)) (hL : SortedK L) (hM : SortedK M) (hl : ∀ key, filK L key = filK fs key) (hk : ∀ key, filK M key = filK (parts.map finP) key) : L = M ∧ fin = rest := by
  obtain ⟨_, h1, h2⟩ := h.forced hm
  exact ⟨sorted_unique hL hM (fun key => by rw [hl, hk, h2]), h1⟩

set_option maxRecDepth 100000 in
theorem conv_arg {a : Option Addr} {n c : Nat} {l : List UInt8} {w : World} (h : ArgB (.slice a n c) l w) (hn : n = l.length) : (convert 22 9 (.slice a n c)).run Tryd.prog w = .ok (.string (mkB l)) w := by
  subst hn
  rcases h with ⟨n2, c2, h1, rfl⟩ | ⟨b, c2, h1, hc⟩
  · injection h1 with h1 h2 h3
    subst h1
    show (convert 22 9 (.slice none 0 c)).run Tryd.prog w = _
    rw [run_convert_bytes_string w 22 9 5 none 0 c Tryd.underlying22 Tryd.underlying5 Tryd.underlying9]
    simp [Conv.bytesToString]
    rfl
  · injection h1 with h1 h2 h3
    subst h1
    exact run_convert_bytes_back w 22 9 5 b c l Tryd.underlying22 Tryd.underlying5 Tryd.underlying9 (fun j hj => hc j l[j] (List.getElem?_eq_getElem hj))
theorem conv_own {B : Nat} {v : Value} {l : List UInt8} {w : World} (h : OwnB B v l w) : (convert 22 9 v).run Tryd.prog w = .ok (.string (mkB l)) w := by
  rcases h.row with ⟨rfl, rfl⟩ | ⟨g, cap, rfl, _, _, _, _, hc⟩
  · exact conv_arg (.inl ⟨0, 0, rfl, rfl⟩) rfl
  · exact conv_arg (.inr ⟨_, _, rfl, fun j x hj => by rw [add_at, Nat.zero_add]; exact (hc j x hj).1⟩) rfl
theorem ArgB.only {v : Value} {l : List UInt8} {w w' : World} (h : ArgB v l w) (k : Only [] w w') : ArgB v l w' := by
  rcases h with h | ⟨b, c, rfl, hc⟩
  · exact .inl h
  · exact .inr ⟨b, c, rfl, fun j x hj => (World.cell?_of_block (k.kept _ (block_lt_of_cell (hc j x hj)) (by simp))).trans (hc j x hj)⟩
theorem OwnB.onlyN {B : Nat} {v : Value} {l : List UInt8} {w w' : World} (h : OwnB B v l w) (k : Only [] w w') : OwnB B v l w' := ownsRow_only h k (by simp)

set_option maxHeartbeats 4000000 in
set_option maxRecDepth 100000 in
theorem fnMessage.walk (v : Value) (l : List UInt8) (eof full : Addr) (w : World) (hs : Sent2 eof full w) (h : ArgB v l w) (hf : ∃ a n c, v = .slice a n c ∧ (n = l.length)) :
    Calls Tryd.prog 3 #[v] w fun e w' => e = .returned (.bool true) ∧ Only [] w w' := by
  obtain ⟨a, n, c, rfl, hn⟩ := hf
  have Hs := hidF hs
  have Ha := hidF h
  have Hn := hidF hn
  clear hs h hn
  go_enter Tryd.func3, Tryd.ntmps3
  by_cases h1 : 65536 < n
  · go_wp2_with fail
    all_goals
      go_ret
      exact ⟨rfl, Only.refl _ _⟩
  · have h2 : ¬ (2147483647 : Int) < (n : Int) := by omega
    have h3 : ¬ (65536 : Int) < (n : Int) := by omega
    have hfl := hidF (fields_any (.slice a n c) l eof full w Hs.out Ha.out (by rw [← Hn.out]; omega))
    go_wp2_with fail
    refine hfl.out.mono ?_
    rintro e w1 ⟨k1, hcase⟩
    have hcv := conv_arg (Ha.out.only k1) Hn.out
    have hmg := hidF (message_any (mkB l) w1 (by rw [size_mkB, ← Hn.out]; omega))
    have K1 := hidF k1
    clear k1 hfl
    rcases hcase with ⟨rfl, fs, k, fin, hfr, hk⟩ | ⟨fv, bv, L, fs, k, fin, rfl, hfr, hk, hof, hob, hsl, hfl, hLl⟩
    · have Hfr := hidF (And.intro hfr hk)
      clear hfr hk
      go_wp2_with fail
      refine hmg.out.mono ?_
      rintro e w2 ⟨k2, hcase⟩
      have HF := hidF (K1.out.trans k2)
      rw [mkB_list] at hcase
      rcases hcase with ⟨gv, rv, rfl⟩ | ⟨⟨gv, rv, rfl⟩, hb⟩ | ⟨gv, rest, parts, M, rfl, hm, _⟩
      · clear k2 hcv
        go_wp2_with fail
        go_ret
        exact ⟨rfl, HF.out⟩
      · clear k2 hcv hb
        go_wp2_with fail
        go_ret
        exact ⟨rfl, HF.out⟩
      · have h3 := (Hfr.out.1.forced hm).1
        have h4 := Hfr.out.2
        omega
    · have Hfr := hidF (And.intro hfr hk)
      have Hof := hidF hof
      have Hob := hidF hob
      have Hsl := hidF (And.intro hsl (And.intro hfl hLl))
      obtain ⟨af, cf, rfl⟩ := hof.form
      obtain ⟨ab, nb, cb, rfl⟩ := hob.form3
      clear hfr hk hof hob hsl hfl hLl
      go_wp2_with fail
      refine hmg.out.mono ?_
      rintro e w2 ⟨k2, hcase⟩
      have HF := hidF (K1.out.trans k2)
      have K2 := hidF k2
      rw [mkB_list] at hcase
      rcases hcase with ⟨gv, rv, rfl⟩ | ⟨⟨gv, rv, rfl⟩, hb⟩ | ⟨gv, rest, parts, M, rfl, hm, hgo, hsM, hfM⟩
      · clear k2 hcv
        go_wp2_with fail
        go_ret
        exact ⟨rfl, HF.out⟩
      · have h3 : k = 2 := Hfr.out.1.forced hb
        have h4 := Hfr.out.2
        omega
      · obtain ⟨rfl, rfl⟩ := fields_one Hfr.out.1 hm Hsl.out.1 hsM Hsl.out.2.1 hfM
        have hsm := hidF (same_any _ _ _ gv L w2 (Hof.out.only K2.out (by simp)) hgo (by have h1 := Hsl.out.2.2; have h2 := Hn.out; omega))
        clear k2 hcv hm hgo hsM hfM
        go_wp2_with fail
        refine hsm.out.mono ?_
        rintro e w3 ⟨rfl, k3⟩
        have HF3 := hidF (HF.out.trans k3)
        have hcb := conv_own ((Hob.out.onlyN K2.out).onlyN k3)
        clear k3 hsm
        go_wp2_with fail
        go_ret
        exact ⟨rfl, HF3.out⟩
end Go.Proofs.YtddnjdapdcopgaaDoor
