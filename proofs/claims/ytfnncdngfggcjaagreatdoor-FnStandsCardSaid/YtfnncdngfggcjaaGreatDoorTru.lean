/- Contracts of Key.Bool and impl.Truth at a plain text. -/
import Derived.Test.YtfnncdngfggcjaaGreatDoorAl
import Derived.Test.YtfnncdngfggcjaaGreatDoorPureM
namespace Go.Proofs.YtfnncdngfggcjaaGreatDoor
open Go.RowKit

theorem aloneString {w0 : World} {B : Nat} {v : ByteArray} {kb : Nat} {w : World} (h : AloneR w0 B v kb w) (hv : v.size ≤ 4096) (hno : Hid (NoPct v)) :
    Calls Tryz.prog 56 #[ptr kb] w fun e w' => e = .returned (.string v) ∧ w = w' := by
  obtain ⟨sb, fb, sname, km, klv, kh, dsv, slv, siv, mb, S, hk, hs, hf, _⟩ := h
  exact keyString_plain kb sb fb es ⟨#[107]⟩ v es sname false false false _ klv dsv slv siv km kh mb w hk hs hf hv hno

set_option maxHeartbeats 400000 in
theorem keyBool_ok (kb : Nat) (v : ByteArray) (b : Bool) (w : World) (hS : Hid (Calls Tryz.prog 56 #[ptr kb] w fun e w' => e = .returned (.string v) ∧ w = w'))
    (hB : Hid (∀ W, Calls Tryz.prog 80 #[.string v] W fun e w' => e = .returned (.tuple #[.bool b, .nilIface]) ∧ W = w')) :
    Calls Tryz.prog 58 #[ptr kb] w fun e w' => e = .returned (.tuple #[.bool b, .nilIface]) ∧ w = w' := by
  go_enter Tryz.func58, Tryz.ntmps58
  go_wp2_with (first
    | (go_at_call 56; refine hS.out.mono ?_; rintro e w' ⟨rfl, rfl⟩)
    | (go_at_call 80; refine (hB.out _).mono ?_; rintro e w' ⟨rfl, rfl⟩))
  go_ret2
  exact ⟨rfl, rfl⟩

set_option maxHeartbeats 400000 in
theorem keyBool_err (kb : Nat) (v : ByteArray) (w : World) (hS : Hid (Calls Tryz.prog 56 #[ptr kb] w fun e w' => e = .returned (.string v) ∧ w = w'))
    (h1 : Hid (v.toList ∉ yesWords)) (h2 : Hid (v.toList ∉ noWords)) :
    Calls Tryz.prog 58 #[ptr kb] w fun e w' => (∃ a : Nat, e = .returned (.tuple #[.bool false, .iface 138 (.pointer (some ⟨a, 0, none⟩))])) ∧ Ch [] w w' := by
  go_enter Tryz.func58, Tryz.ntmps58
  go_wp2_with (first
    | (go_at_call 56; refine hS.out.mono ?_; rintro e w' ⟨rfl, rfl⟩)
    | (go_at_call 80; refine (parseBool_none v _ h1.out h2.out).mono ?_; rintro e w' ⟨⟨b, rfl⟩, hb⟩))
  go_ret2
  exact ⟨⟨b, rfl⟩, Ch.ofBelow hb⟩

theorem aloneCh {w0 : World} {B : Nat} {v : ByteArray} {kb : Nat} {w : World} (h : AloneR w0 B v kb w) : ∃ S, Ch S w0 w ∧ ∀ b, b ∈ S → B ≤ b := by
  obtain ⟨sb, fb, sname, km, klv, kh, dsv, slv, siv, mb, S, hk, hs, hf, h1, h2⟩ := h
  exact ⟨S, h1, h2⟩

set_option maxHeartbeats 1000000 in
theorem truth30_of (B : Nat) (ea fa : Addr) (v : ByteArray) (w : World) (g : Glob w B ea fa) (hv : v.size ≤ 4096) (hno : Hid (NoPct v)) :
    Calls Tryz.prog 30 #[.string v] w fun e w' => e = .returned (truthVal v.toList) ∧ Hid (∃ S, Ch S w w' ∧ ∀ b, b ∈ S → B ≤ b) := by
  have HA := Lib.hid (alone_plain B ea fa v w g hv hno)
  clear g
  by_cases h1 : v.toList ∈ yesWords
  · rw [truth_at_yes h1]
    have HB : Hid (∀ W, Calls Tryz.prog 80 #[.string v] W fun e w' => e = .returned (.tuple #[.bool true, .nilIface]) ∧ W = w') := fun W => parseBool_yes v W h1
    clear h1
    go_enter Tryz.func30, Tryz.ntmps30
    go_wp2_with (first
      | (go_at_call 57; refine HA.out.mono ?_; rintro e w1 ⟨kb, rfl, HR⟩; have HS := Lib.hid (aloneString HR.out hv hno); have HC := Lib.hid (aloneCh HR.out); unfold ptr)
      | (go_at_call 58; refine (keyBool_ok kb v true _ HS HB).mono ?_; rintro e w2 ⟨rfl, rfl⟩))
    go_quiet (fail)
    go_wp2
    go_ret2
    exact ⟨rfl, Lib.hid (let ⟨S, c1, c2⟩ := HC.out; ⟨S, c1.drewN _, c2⟩)⟩
  by_cases h2 : v.toList ∈ noWords
  · rw [truth_at_no h1 h2]
    have HB : Hid (∀ W, Calls Tryz.prog 80 #[.string v] W fun e w' => e = .returned (.tuple #[.bool false, .nilIface]) ∧ W = w') := fun W => parseBool_no v W h2
    clear h1 h2
    go_enter Tryz.func30, Tryz.ntmps30
    go_wp2_with (first
      | (go_at_call 57; refine HA.out.mono ?_; rintro e w1 ⟨kb, rfl, HR⟩; have HS := Lib.hid (aloneString HR.out hv hno); have HC := Lib.hid (aloneCh HR.out); unfold ptr)
      | (go_at_call 58; refine (keyBool_ok kb v false _ HS HB).mono ?_; rintro e w2 ⟨rfl, rfl⟩))
    go_quiet (fail)
    go_wp2
    go_ret2
    exact ⟨rfl, Lib.hid (let ⟨S, c1, c2⟩ := HC.out; ⟨S, c1.drewN _, c2⟩)⟩
  · rw [truth_at_none h1 h2]
    have H1 := Lib.hid h1
    have H2 := Lib.hid h2
    clear h1 h2
    go_enter Tryz.func30, Tryz.ntmps30
    go_wp2_with (first
      | (go_at_call 57; refine HA.out.mono ?_; rintro e w1 ⟨kb, rfl, HR⟩; have HS := Lib.hid (aloneString HR.out hv hno); have HC := Lib.hid (aloneCh HR.out); unfold ptr)
      | (go_at_call 58; refine (keyBool_err kb v _ HS H1 H2).mono ?_; rintro e w2 ⟨⟨a, rfl⟩, hch⟩))
    go_quiet (fail)
    go_wp2
    go_ret2
    exact ⟨rfl, Lib.hid (let ⟨S, c1, c2⟩ := HC.out; ⟨S, (c1.trans hch (by simp)).drewN _, c2⟩)⟩
end Go.Proofs.YtfnncdngfggcjaaGreatDoor
