/- The walk of laws.FnParent. -/
import Derived.Test.YtfnncdngfggcjaaGreatDoorPt2
namespace Go.Proofs.YtfnncdngfggcjaaGreatDoor
open Go.RowKit

theorem isPlain_hidP (s : ByteArray) (b : Bool) (h : isPlain s = b) (hs : s.size ≤ 140737488351232) :
    Hid (∀ w, Calls Tryz.prog 21 #[.string s] w fun e w' => e = .returned (.bool b) ∧ w = w') := fun w => by rw [← h]; exact isPlain_any s w hs
theorem isName_hid (s : ByteArray) (b : Bool) (h : isNameB s = b) (hs : s.size ≤ 140737488351232) :
    Hid (∀ w, Calls Tryz.prog 20 #[.string s] w fun e w' => e = .returned (.bool b) ∧ Hid (Ch [] w w')) := fun w => by rw [← h]; exact isName_any s w hs

theorem par22 (B : Nat) (ea fa : Addr) (a b c name value : ByteArray) (d : Nat) (hd : d ≤ 2) (h : ParIn a b c name value) (w : World) (g : Glob w B ea fa) (htab : SpcTab w) (W : World) (txt : ByteArray) (hW : Ch [] w W) (ht : txt.data.toList = textOf (parLines a b c name value d)) :
    Calls Tryz.prog 22 #[.string txt, .string (dot (dot a b) c), .string name] W fun e w' => e = .returned (.tuple #[.string value, .bool true]) ∧ Hid (Kept B w w') := by
  refine (parent_of B ea fa true (parLines a b c name value d) txt (dot (dot a b) c) name value W (TextOK.of ht (par_head h d) (par_length h d) (par_run h d hd).1) (g.ch hW (by simp)) (fun _ => htab.nil hW) (par_tells h d hd)).mono ?_
  rintro e w' ⟨rfl, hk⟩
  exact ⟨rfl, Kept.trans ⟨[], hW, by simp⟩ hk.out⟩

set_option maxRecDepth 100000 in
set_option maxHeartbeats 8000000 in
theorem fnParent_walk (B : Nat) (ea fa : Addr) (a b c name value : ByteArray) (d : Int) (w : World) (g : Glob w B ea fa) (htab : SpcTab w) :
    Calls Tryz.prog 4 #[.string a, .string b, .string c, .string name, .string value, .int .i64 d] w fun e w' => e = .returned (.bool true) ∧ Hid (Kept B w w') := by
  by_cases z0 : (2147483647 : Int) < (a.size : Int)
  · clear g htab
    go_enter Tryz.func4, Tryz.ntmps4
    go_wp2
    go_ret
    exact ⟨rfl, Kept.refl B w⟩
  by_cases z1 : (2147483647 : Int) < (b.size : Int)
  · clear g htab
    go_enter Tryz.func4, Tryz.ntmps4
    go_wp2
    go_ret
    exact ⟨rfl, Kept.refl B w⟩
  by_cases z2 : (2147483647 : Int) < (c.size : Int)
  · clear g htab
    go_enter Tryz.func4, Tryz.ntmps4
    go_wp2
    go_ret
    exact ⟨rfl, Kept.refl B w⟩
  by_cases z3 : (2147483647 : Int) < (name.size : Int)
  · clear g htab
    go_enter Tryz.func4, Tryz.ntmps4
    go_wp2
    go_ret
    exact ⟨rfl, Kept.refl B w⟩
  by_cases z4 : (2147483647 : Int) < (value.size : Int)
  · clear g htab
    go_enter Tryz.func4, Tryz.ntmps4
    go_wp2
    go_ret
    exact ⟨rfl, Kept.refl B w⟩
  cases h1 : isNameB a with
  | false =>
    have HN1 := isName_hid a false h1 (by omega)
    clear g htab h1
    go_enter Tryz.func4, Tryz.ntmps4
    go_wp2_with (first
      | (go_at_call 20; (with_reducible refine (HN1.out _).mono ?_); rintro e w1 ⟨rfl, hc⟩; have HC1 : Hid (Ch [] w w1) := hc.out; clear hc))
    go_ret
    exact ⟨rfl, ⟨[], HC1.out, by simp⟩⟩
  | true =>
  have HN1 := isName_hid a true h1 (by omega)
  cases h2 : isNameB b with
  | false =>
    have HN2 := isName_hid b false h2 (by omega)
    clear g htab h2
    go_enter Tryz.func4, Tryz.ntmps4
    go_wp2_with (first
      | (go_at_call 20; (with_reducible refine (HN1.out _).mono ?_); rintro e w1 ⟨rfl, hc⟩; have HC1 : Hid (Ch [] w w1) := hc.out; clear hc)
      | (go_at_call 20; (with_reducible refine (HN2.out _).mono ?_); rintro e w2 ⟨rfl, hc⟩; have HC2 : Hid (Ch [] w w2) := HC1.out.trans hc.out (by simp); clear hc))
    go_ret
    exact ⟨rfl, ⟨[], HC2.out, by simp⟩⟩
  | true =>
  have HN2 := isName_hid b true h2 (by omega)
  cases h3 : isNameB c with
  | false =>
    have HN3 := isName_hid c false h3 (by omega)
    clear g htab h3
    go_enter Tryz.func4, Tryz.ntmps4
    go_wp2_with (first
      | (go_at_call 20; (with_reducible refine (HN1.out _).mono ?_); rintro e w1 ⟨rfl, hc⟩; have HC1 : Hid (Ch [] w w1) := hc.out; clear hc)
      | (go_at_call 20; (with_reducible refine (HN2.out _).mono ?_); rintro e w2 ⟨rfl, hc⟩; have HC2 : Hid (Ch [] w w2) := HC1.out.trans hc.out (by simp); clear hc)
      | (go_at_call 20; (with_reducible refine (HN3.out _).mono ?_); rintro e w3 ⟨rfl, hc⟩; have HC3 : Hid (Ch [] w w3) := HC2.out.trans hc.out (by simp); clear hc))
    go_ret
    exact ⟨rfl, ⟨[], HC3.out, by simp⟩⟩
  | true =>
  have HN3 := isName_hid c true h3 (by omega)
  cases h4 : isNameB name with
  | false =>
    have HN4 := isName_hid name false h4 (by omega)
    clear g htab h4
    go_enter Tryz.func4, Tryz.ntmps4
    go_wp2_with (first
      | (go_at_call 20; (with_reducible refine (HN1.out _).mono ?_); rintro e w1 ⟨rfl, hc⟩; have HC1 : Hid (Ch [] w w1) := hc.out; clear hc)
      | (go_at_call 20; (with_reducible refine (HN2.out _).mono ?_); rintro e w2 ⟨rfl, hc⟩; have HC2 : Hid (Ch [] w w2) := HC1.out.trans hc.out (by simp); clear hc)
      | (go_at_call 20; (with_reducible refine (HN3.out _).mono ?_); rintro e w3 ⟨rfl, hc⟩; have HC3 : Hid (Ch [] w w3) := HC2.out.trans hc.out (by simp); clear hc)
      | (go_at_call 20; (with_reducible refine (HN4.out _).mono ?_); rintro e w4 ⟨rfl, hc⟩; have HC4 : Hid (Ch [] w w4) := HC3.out.trans hc.out (by simp); clear hc))
    go_ret
    exact ⟨rfl, ⟨[], HC4.out, by simp⟩⟩
  | true =>
  have HN4 := isName_hid name true h4 (by omega)
  cases h5 : isPlain value with
  | false =>
    have HP := isPlain_hidP value false h5 (by omega)
    clear g htab h5
    go_enter Tryz.func4, Tryz.ntmps4
    go_wp2_with (first
      | (go_at_call 20; (with_reducible refine (HN1.out _).mono ?_); rintro e w1 ⟨rfl, hc⟩; have HC1 : Hid (Ch [] w w1) := hc.out; clear hc)
      | (go_at_call 20; (with_reducible refine (HN2.out _).mono ?_); rintro e w2 ⟨rfl, hc⟩; have HC2 : Hid (Ch [] w w2) := HC1.out.trans hc.out (by simp); clear hc)
      | (go_at_call 20; (with_reducible refine (HN3.out _).mono ?_); rintro e w3 ⟨rfl, hc⟩; have HC3 : Hid (Ch [] w w3) := HC2.out.trans hc.out (by simp); clear hc)
      | (go_at_call 20; (with_reducible refine (HN4.out _).mono ?_); rintro e w4 ⟨rfl, hc⟩; have HC4 : Hid (Ch [] w w4) := HC3.out.trans hc.out (by simp); clear hc)
      | (go_at_call 21; (with_reducible refine (HP.out _).mono ?_); rintro e w' ⟨rfl, rfl⟩))
    go_ret
    exact ⟨rfl, ⟨[], HC4.out, by simp⟩⟩
  | true =>
  have HP := isPlain_hidP value true h5 (by omega)
  by_cases y0 : d < 0
  · clear g htab h1 h2 h3 h4 h5
    go_enter Tryz.func4, Tryz.ntmps4
    go_wp2_with (first
      | (go_at_call 20; (with_reducible refine (HN1.out _).mono ?_); rintro e w1 ⟨rfl, hc⟩; have HC1 : Hid (Ch [] w w1) := hc.out; clear hc)
      | (go_at_call 20; (with_reducible refine (HN2.out _).mono ?_); rintro e w2 ⟨rfl, hc⟩; have HC2 : Hid (Ch [] w w2) := HC1.out.trans hc.out (by simp); clear hc)
      | (go_at_call 20; (with_reducible refine (HN3.out _).mono ?_); rintro e w3 ⟨rfl, hc⟩; have HC3 : Hid (Ch [] w w3) := HC2.out.trans hc.out (by simp); clear hc)
      | (go_at_call 20; (with_reducible refine (HN4.out _).mono ?_); rintro e w4 ⟨rfl, hc⟩; have HC4 : Hid (Ch [] w w4) := HC3.out.trans hc.out (by simp); clear hc)
      | (go_at_call 21; (with_reducible refine (HP.out _).mono ?_); rintro e w' ⟨rfl, rfl⟩))
    go_ret
    exact ⟨rfl, ⟨[], HC4.out, by simp⟩⟩
  by_cases y1 : 2 < d
  · clear g htab h1 h2 h3 h4 h5
    go_enter Tryz.func4, Tryz.ntmps4
    go_wp2_with (first
      | (go_at_call 20; (with_reducible refine (HN1.out _).mono ?_); rintro e w1 ⟨rfl, hc⟩; have HC1 : Hid (Ch [] w w1) := hc.out; clear hc)
      | (go_at_call 20; (with_reducible refine (HN2.out _).mono ?_); rintro e w2 ⟨rfl, hc⟩; have HC2 : Hid (Ch [] w w2) := HC1.out.trans hc.out (by simp); clear hc)
      | (go_at_call 20; (with_reducible refine (HN3.out _).mono ?_); rintro e w3 ⟨rfl, hc⟩; have HC3 : Hid (Ch [] w w3) := HC2.out.trans hc.out (by simp); clear hc)
      | (go_at_call 20; (with_reducible refine (HN4.out _).mono ?_); rintro e w4 ⟨rfl, hc⟩; have HC4 : Hid (Ch [] w w4) := HC3.out.trans hc.out (by simp); clear hc)
      | (go_at_call 21; (with_reducible refine (HP.out _).mono ?_); rintro e w' ⟨rfl, rfl⟩))
    go_ret
    exact ⟨rfl, ⟨[], HC4.out, by simp⟩⟩
  have H22 := fun (n : Nat) (hn : n ≤ 2) => Lib.hid (par22 B ea fa a b c name value n hn ⟨h1, h2, h3, h4, h5⟩ w g htab)
  unfold dot at H22
  rcases (show d = 0 ∨ d = 1 ∨ d = 2 by omega) with rfl | rfl | rfl
  · have HG := H22 0 (by omega)
    clear g htab h1 h2 h3 h4 h5 H22 y0 y1
    go_enter Tryz.func4, Tryz.ntmps4
    go_wp2_with (first
      | (go_at_call 20; (with_reducible refine (HN1.out _).mono ?_); rintro e w1 ⟨rfl, hc⟩; have HC1 : Hid (Ch [] w w1) := hc.out; clear hc)
      | (go_at_call 20; (with_reducible refine (HN2.out _).mono ?_); rintro e w2 ⟨rfl, hc⟩; have HC2 : Hid (Ch [] w w2) := HC1.out.trans hc.out (by simp); clear hc)
      | (go_at_call 20; (with_reducible refine (HN3.out _).mono ?_); rintro e w3 ⟨rfl, hc⟩; have HC3 : Hid (Ch [] w w3) := HC2.out.trans hc.out (by simp); clear hc)
      | (go_at_call 20; (with_reducible refine (HN4.out _).mono ?_); rintro e w4 ⟨rfl, hc⟩; have HC4 : Hid (Ch [] w w4) := HC3.out.trans hc.out (by simp); clear hc)
      | (go_at_call 21; (with_reducible refine (HP.out _).mono ?_); rintro e w' ⟨rfl, rfl⟩))
    refine wp_loop_rounds 4 ?_
    rw [rounds_succ]
    go_wp2
    rw [rounds_succ]
    go_wp2
    rw [rounds_succ]
    go_wp2
    rw [rounds_succ]
    go_wp2_with (go_at_call 22; (refine (HG.out _ _ (HC4.out.alloc _) (by simp [parLines, textOf, Ln.body, dot_list, List.append_assoc]; try rfl)).mono ?_); rintro e w5 ⟨rfl, HK⟩)
    go_ret
    exact ⟨by simp, HK⟩
  · have HG := H22 1 (by omega)
    clear g htab h1 h2 h3 h4 h5 H22 y0 y1
    go_enter Tryz.func4, Tryz.ntmps4
    go_wp2_with (first
      | (go_at_call 20; (with_reducible refine (HN1.out _).mono ?_); rintro e w1 ⟨rfl, hc⟩; have HC1 : Hid (Ch [] w w1) := hc.out; clear hc)
      | (go_at_call 20; (with_reducible refine (HN2.out _).mono ?_); rintro e w2 ⟨rfl, hc⟩; have HC2 : Hid (Ch [] w w2) := HC1.out.trans hc.out (by simp); clear hc)
      | (go_at_call 20; (with_reducible refine (HN3.out _).mono ?_); rintro e w3 ⟨rfl, hc⟩; have HC3 : Hid (Ch [] w w3) := HC2.out.trans hc.out (by simp); clear hc)
      | (go_at_call 20; (with_reducible refine (HN4.out _).mono ?_); rintro e w4 ⟨rfl, hc⟩; have HC4 : Hid (Ch [] w w4) := HC3.out.trans hc.out (by simp); clear hc)
      | (go_at_call 21; (with_reducible refine (HP.out _).mono ?_); rintro e w' ⟨rfl, rfl⟩))
    refine wp_loop_rounds 4 ?_
    rw [rounds_succ]
    go_wp2
    rw [rounds_succ]
    go_wp2
    rw [rounds_succ]
    go_wp2
    rw [rounds_succ]
    go_wp2_with (go_at_call 22; (refine (HG.out _ _ (HC4.out.alloc _) (by simp [parLines, textOf, Ln.body, dot_list, List.append_assoc]; try rfl)).mono ?_); rintro e w5 ⟨rfl, HK⟩)
    go_ret
    exact ⟨by simp, HK⟩
  · have HG := H22 2 (by omega)
    clear g htab h1 h2 h3 h4 h5 H22 y0 y1
    go_enter Tryz.func4, Tryz.ntmps4
    go_wp2_with (first
      | (go_at_call 20; (with_reducible refine (HN1.out _).mono ?_); rintro e w1 ⟨rfl, hc⟩; have HC1 : Hid (Ch [] w w1) := hc.out; clear hc)
      | (go_at_call 20; (with_reducible refine (HN2.out _).mono ?_); rintro e w2 ⟨rfl, hc⟩; have HC2 : Hid (Ch [] w w2) := HC1.out.trans hc.out (by simp); clear hc)
      | (go_at_call 20; (with_reducible refine (HN3.out _).mono ?_); rintro e w3 ⟨rfl, hc⟩; have HC3 : Hid (Ch [] w w3) := HC2.out.trans hc.out (by simp); clear hc)
      | (go_at_call 20; (with_reducible refine (HN4.out _).mono ?_); rintro e w4 ⟨rfl, hc⟩; have HC4 : Hid (Ch [] w w4) := HC3.out.trans hc.out (by simp); clear hc)
      | (go_at_call 21; (with_reducible refine (HP.out _).mono ?_); rintro e w' ⟨rfl, rfl⟩))
    refine wp_loop_rounds 4 ?_
    rw [rounds_succ]
    go_wp2
    rw [rounds_succ]
    go_wp2
    rw [rounds_succ]
    go_wp2
    rw [rounds_succ]
    go_wp2_with (go_at_call 22; (refine (HG.out _ _ (HC4.out.alloc _) (by simp [parLines, textOf, Ln.body, dot_list, List.append_assoc]; try rfl)).mono ?_); rintro e w5 ⟨rfl, HK⟩)
    go_ret
    exact ⟨by simp, HK⟩
end Go.Proofs.YtfnncdngfggcjaaGreatDoor
