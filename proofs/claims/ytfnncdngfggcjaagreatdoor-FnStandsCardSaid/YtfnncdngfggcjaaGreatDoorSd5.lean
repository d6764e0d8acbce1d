/- The walk of laws.FnStands. -/
import Derived.Test.YtfnncdngfggcjaaGreatDoorSd4
import Derived.Test.YtfnncdngfggcjaaGreatDoorIn2
namespace Go.Proofs.YtfnncdngfggcjaaGreatDoor
open Go.RowKit

theorem isName_hidS (s : ByteArray) (b : Bool) (h : isNameB s = b) (hs : s.size ≤ 140737488351232) :
    Hid (∀ w, Calls Tryz.prog 20 #[.string s] w fun e w' => e = .returned (.bool b) ∧ Hid (Ch [] w w')) := fun w => by rw [← h]; exact isName_any s w hs
theorem sd_txt0 (name own other ahead behind : ByteArray) : (name ++ ⟨#[32, 61, 32]⟩ ++ other ++ ⟨#[10, 91, 115, 93, 10]⟩ ++ ⟨#[107, 101, 121, 32, 61, 32]⟩ ++ ahead ++ ⟨#[37, 40]⟩ ++ name ++ ⟨#[41, 115]⟩ ++ behind ++ ⟨#[10]⟩).data.toList = textOf (sdLines name own other ahead behind false) := by
  simp [sdLines, textOf, Ln.body, valT_list]
theorem sd_txt1 (name own other ahead behind : ByteArray) : (name ++ ⟨#[32, 61, 32]⟩ ++ other ++ ⟨#[10, 91, 115, 93, 10]⟩ ++ name ++ ⟨#[32, 61, 32]⟩ ++ own ++ ⟨#[10]⟩ ++ ⟨#[107, 101, 121, 32, 61, 32]⟩ ++ ahead ++ ⟨#[37, 40]⟩ ++ name ++ ⟨#[41, 115]⟩ ++ behind ++ ⟨#[10]⟩).data.toList = textOf (sdLines name own other ahead behind true) := by
  simp [sdLines, textOf, Ln.body, valT_list]
theorem low_key : lowB keyK = keyK := by decide

set_option maxRecDepth 100000 in
set_option maxHeartbeats 16000000 in
theorem fnStands_walk (B : Nat) (ea fa : Addr) (name own other : ByteArray) (here : Bool) (ahead behind : ByteArray) (w : World) (g : Glob w B ea fa) (htab : SpcTab w) :
    Calls Tryz.prog 11 #[.string name, .string own, .string other, .bool here, .string ahead, .string behind] w fun e w' => e = .returned (.bool true) ∧ Hid (Kept B w w') := by
  by_cases z0 : (2147483647 : Int) < (name.size : Int)
  · clear g htab
    go_enter Tryz.func11, Tryz.ntmps11
    go_wp2
    go_ret
    exact ⟨rfl, Kept.refl B w⟩
  by_cases z1 : (2147483647 : Int) < (own.size : Int)
  · clear g htab
    go_enter Tryz.func11, Tryz.ntmps11
    go_wp2
    go_ret
    exact ⟨rfl, Kept.refl B w⟩
  by_cases z2 : (2147483647 : Int) < (other.size : Int)
  · clear g htab
    go_enter Tryz.func11, Tryz.ntmps11
    go_wp2
    go_ret
    exact ⟨rfl, Kept.refl B w⟩
  by_cases z3 : (2147483647 : Int) < (ahead.size : Int)
  · clear g htab
    go_enter Tryz.func11, Tryz.ntmps11
    go_wp2
    go_ret
    exact ⟨rfl, Kept.refl B w⟩
  by_cases z4 : (2147483647 : Int) < (behind.size : Int)
  · clear g htab
    go_enter Tryz.func11, Tryz.ntmps11
    go_wp2
    go_ret
    exact ⟨rfl, Kept.refl B w⟩
  cases h0 : isNameB name with
  | false =>
    have HN := isName_hidS name false h0 (by omega)
    clear g htab h0
    go_enter Tryz.func11, Tryz.ntmps11
    go_wp2_with (go_at_call 20; refine (HN.out _).mono ?_; rintro e w1 ⟨rfl, HC1⟩)
    go_ret
    exact ⟨rfl, ⟨[], HC1.out, by simp⟩⟩
  | true =>
  have HN := isName_hidS name true h0 (by omega)
  cases h1 : isPlain own with
  | false =>
    have HP1 := isPlain_hid own false h1 (by omega)
    clear g htab h0 h1
    go_enter Tryz.func11, Tryz.ntmps11
    go_wp2_with (first
      | (go_at_call 20; refine (HN.out _).mono ?_; rintro e w1 ⟨rfl, HC1⟩)
      | (go_at_call 21; (with_reducible refine (HP1.out _).mono ?_); rintro e w' ⟨rfl, rfl⟩))
    go_ret
    exact ⟨rfl, ⟨[], HC1.out, by simp⟩⟩
  | true =>
  have HP1 := isPlain_hid own true h1 (by omega)
  cases h2 : isPlain other with
  | false =>
    have HP2 := isPlain_hid other false h2 (by omega)
    clear g htab h0 h1 h2
    go_enter Tryz.func11, Tryz.ntmps11
    go_wp2_with (first
      | (go_at_call 20; refine (HN.out _).mono ?_; rintro e w1 ⟨rfl, HC1⟩)
      | (go_at_call 21; (with_reducible refine (HP1.out _).mono ?_); rintro e w' ⟨rfl, rfl⟩)
      | (go_at_call 21; (with_reducible refine (HP2.out _).mono ?_); rintro e w' ⟨rfl, rfl⟩))
    go_ret
    exact ⟨rfl, ⟨[], HC1.out, by simp⟩⟩
  | true =>
  have HP2 := isPlain_hid other true h2 (by omega)
  cases h3 : isPlain ahead with
  | false =>
    have HP3 := isPlain_hid ahead false h3 (by omega)
    clear g htab h0 h1 h2 h3
    go_enter Tryz.func11, Tryz.ntmps11
    go_wp2_with (first
      | (go_at_call 20; refine (HN.out _).mono ?_; rintro e w1 ⟨rfl, HC1⟩)
      | (go_at_call 21; (with_reducible refine (HP1.out _).mono ?_); rintro e w' ⟨rfl, rfl⟩)
      | (go_at_call 21; (with_reducible refine (HP2.out _).mono ?_); rintro e w' ⟨rfl, rfl⟩)
      | (go_at_call 21; (with_reducible refine (HP3.out _).mono ?_); rintro e w' ⟨rfl, rfl⟩))
    go_ret
    exact ⟨rfl, ⟨[], HC1.out, by simp⟩⟩
  | true =>
  have HP3 := isPlain_hid ahead true h3 (by omega)
  cases h4 : isPlain behind with
  | false =>
    have HP4 := isPlain_hid behind false h4 (by omega)
    clear g htab h0 h1 h2 h3 h4
    go_enter Tryz.func11, Tryz.ntmps11
    go_wp2_with (first
      | (go_at_call 20; refine (HN.out _).mono ?_; rintro e w1 ⟨rfl, HC1⟩)
      | (go_at_call 21; (with_reducible refine (HP1.out _).mono ?_); rintro e w' ⟨rfl, rfl⟩)
      | (go_at_call 21; (with_reducible refine (HP2.out _).mono ?_); rintro e w' ⟨rfl, rfl⟩)
      | (go_at_call 21; (with_reducible refine (HP3.out _).mono ?_); rintro e w' ⟨rfl, rfl⟩)
      | (go_at_call 21; (with_reducible refine (HP4.out _).mono ?_); rintro e w' ⟨rfl, rfl⟩))
    go_ret
    exact ⟨rfl, ⟨[], HC1.out, by simp⟩⟩
  | true =>
  have HP4 := isPlain_hid behind true h4 (by omega)
  have s0 := nameB_size h0
  have HLO := Lib.hid (fun W => lower_any name W (by omega))
  cases hlk : ((lowB name).toList == [107, 101, 121]) with
  | true =>
    clear g htab h0 h1 h2 h3 h4
    go_enter Tryz.func11, Tryz.ntmps11
    go_wp2_with (first
      | (go_at_call 20; refine (HN.out _).mono ?_; rintro e w1 ⟨rfl, HC1⟩)
      | (go_at_call 21; (with_reducible refine (HP1.out _).mono ?_); rintro e w' ⟨rfl, rfl⟩)
      | (go_at_call 21; (with_reducible refine (HP2.out _).mono ?_); rintro e w' ⟨rfl, rfl⟩)
      | (go_at_call 21; (with_reducible refine (HP3.out _).mono ?_); rintro e w' ⟨rfl, rfl⟩)
      | (go_at_call 21; (with_reducible refine (HP4.out _).mono ?_); rintro e w' ⟨rfl, rfl⟩)
      | (go_at_call 28; refine (HLO.out _).mono ?_; rintro e w2 ⟨rfl, HC2⟩))
    go_ret
    exact ⟨rfl, ⟨[], HC1.out.trans HC2.out (by simp), by simp⟩⟩
  | false =>
  have HIN : Hid (SdIn name own other ahead behind) := ⟨h0, h1, h2, h3, h4, fun e => by
    rw [e, low_key, ByteArray.toList_eq] at hlk
    exact absurd hlk (by decide)⟩
  have s1 := plain_size h1
  have s2 := plain_size h2
  have s3 := plain_size h3
  have s4 := plain_size h4
  have HG := Lib.hid g
  have HTAB := Lib.hid htab
  clear g htab h0 h1 h2 h3 h4
  cases here
  · have HTX := Lib.hid (sd_txt0 name own other ahead behind)
    go_enter Tryz.func11, Tryz.ntmps11
    go_wp2_with (first
      | (go_at_call 20; refine (HN.out _).mono ?_; rintro e w1 ⟨rfl, HC1⟩)
      | (go_at_call 21; (with_reducible refine (HP1.out _).mono ?_); rintro e w' ⟨rfl, rfl⟩)
      | (go_at_call 21; (with_reducible refine (HP2.out _).mono ?_); rintro e w' ⟨rfl, rfl⟩)
      | (go_at_call 21; (with_reducible refine (HP3.out _).mono ?_); rintro e w' ⟨rfl, rfl⟩)
      | (go_at_call 21; (with_reducible refine (HP4.out _).mono ?_); rintro e w' ⟨rfl, rfl⟩)
      | (go_at_call 28; refine (HLO.out _).mono ?_; rintro e w2 ⟨rfl, HC2⟩
         have HC12 : Hid (Ch [] w w2) := HC1.out.trans HC2.out (by simp)
         have HG2 := Lib.hid (HG.out.ch HC12.out (by simp))
         have HT2 := Lib.hid (HTAB.out.nil HC12.out))
      | (go_at_call 29; refine (sd29 B ea fa HIN.out false _ HG2.out HT2.out _ HTX.out).mono ?_; rintro e w3 ⟨rfl, HK3⟩))
    go_ret
    exact ⟨by simp [sdWant], Kept.trans ⟨[], HC12.out, by simp⟩ HK3.out⟩
  · have HTX := Lib.hid (sd_txt1 name own other ahead behind)
    go_enter Tryz.func11, Tryz.ntmps11
    go_wp2_with (first
      | (go_at_call 20; refine (HN.out _).mono ?_; rintro e w1 ⟨rfl, HC1⟩)
      | (go_at_call 21; (with_reducible refine (HP1.out _).mono ?_); rintro e w' ⟨rfl, rfl⟩)
      | (go_at_call 21; (with_reducible refine (HP2.out _).mono ?_); rintro e w' ⟨rfl, rfl⟩)
      | (go_at_call 21; (with_reducible refine (HP3.out _).mono ?_); rintro e w' ⟨rfl, rfl⟩)
      | (go_at_call 21; (with_reducible refine (HP4.out _).mono ?_); rintro e w' ⟨rfl, rfl⟩)
      | (go_at_call 28; refine (HLO.out _).mono ?_; rintro e w2 ⟨rfl, HC2⟩
         have HC12 : Hid (Ch [] w w2) := HC1.out.trans HC2.out (by simp)
         have HG2 := Lib.hid (HG.out.ch HC12.out (by simp))
         have HT2 := Lib.hid (HTAB.out.nil HC12.out))
      | (go_at_call 29; refine (sd29 B ea fa HIN.out true _ HG2.out HT2.out _ HTX.out).mono ?_; rintro e w3 ⟨rfl, HK3⟩))
    go_ret
    exact ⟨by simp [sdWant], Kept.trans ⟨[], HC12.out, by simp⟩ HK3.out⟩
end Go.Proofs.YtfnncdngfggcjaaGreatDoor
