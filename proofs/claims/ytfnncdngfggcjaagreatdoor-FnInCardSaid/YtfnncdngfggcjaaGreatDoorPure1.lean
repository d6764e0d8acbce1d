/- Contracts of small functions of the reference that only compute: isLetter, IsPlain, Truth. -/
import Derived.Test.YtfnncdngfggcjaaGreatDoorRows
import Derived.WalkKit
import Derived.WalkSpells
import Derived.WalkLawsBesides
import Derived.Lib.Hide
namespace Go.Proofs.YtfnncdngfggcjaaGreatDoor
open Go.RowKit

def isLetter (c : Int) : Bool := decide (97 ≤ c ∧ c ≤ 122 ∨ 65 ≤ c ∧ c ≤ 90 ∨ 48 ≤ c ∧ c ≤ 57)

theorem ret_bool {a b : Bool} (h : a = b) : Ending.returned (.bool a) = .returned (.bool b) := by rw [h]

set_option maxHeartbeats 400000 in
theorem isLetter_any (c : Int) (w : World) :
    Calls Tryz.prog 44 #[.int .u8 c] w fun e w' => e = .returned (.bool (isLetter c)) ∧ w = w' := by
  go_enter Tryz.func44, Tryz.ntmps44
  go_wp2
  all_goals
    go_ret
    exact ⟨ret_bool (by unfold isLetter; rw [Bool.eq_iff_iff]; simp; omega), rfl⟩

/-- byte i of a text, as a number -/
def bt (s : ByteArray) (i : Nat) : Int := ((s.data.toList.getD i 0).toNat : Int)

theorem bt_get (s : ByteArray) (i : Nat) (h : i < s.size) : (s[i].toNat : Int) = bt s i := by
  unfold bt
  have : s.data.toList.getD i 0 = s[i] := by
    rw [List.getD_eq_getElem?_getD, List.getElem?_eq_getElem (by simpa using h)]; rfl
  rw [this]

def okAt (s : ByteArray) (i : Nat) : Bool :=
  isLetter (bt s i) || bt s i == 46 || (bt s i == 32 && decide (0 < i) && decide (i + 1 < s.size) && bt s (i - 1) != 32)

def isPlain (s : ByteArray) : Bool := (List.range s.size).all (okAt s) && decide (1 ≤ s.size) && decide (s.size ≤ 60)

theorem isPlain_no {s : ByteArray} {k : Nat} (hk : k < s.size) (h : okAt s k = false) : isPlain s = false := by
  unfold isPlain
  have : (List.range s.size).all (okAt s) = false := List.all_eq_false.2 ⟨k, List.mem_range.2 hk, by rw [h]; simp⟩
  rw [this]; rfl

theorem isPlain_end {s : ByteArray} (h : ∀ j, j < s.size → okAt s j = true) : isPlain s = (decide (1 ≤ (s.size : Int)) && decide ((s.size : Int) ≤ 60)) := by
  unfold isPlain
  have : (List.range s.size).all (okAt s) = true := List.all_eq_true.2 fun j hj => h j (List.mem_range.1 hj)
  rw [this, Bool.eq_iff_iff]; simp; omega

theorem ok_ext {s : ByteArray} {k : Nat} (h : Hid (∀ j, j < k → okAt s j = true)) (hk : okAt s k = true) : Hid (∀ j, j < k + 1 → okAt s j = true) :=
  fun j hj => by
    rcases Nat.lt_or_ge j k with h' | h'
    · exact h.out j h'
    · obtain rfl : j = k := by omega
      exact hk

set_option maxHeartbeats 1000000 in
theorem isPlain_any (s : ByteArray) (w : World) (hs : s.size ≤ 140737488351232) :
    Calls Tryz.prog 21 #[.string s] w fun e w' => e = .returned (.bool (isPlain s)) ∧ w = w' := by
  go_enter Tryz.func21, Tryz.ntmps21
  go_wp2
  go_loop [3] (fun i => ∃ k : Nat, k ≤ s.size ∧ i = .int .i64 k ∧ Hid (∀ j, j < k → okAt s j = true)) (fun i => s.size - (intOf i).toNat)
  case atStart => exact ⟨0, Nat.zero_le _, rfl, fun j hj => absurd hj (Nat.not_lt_zero _)⟩
  case round =>
    obtain ⟨k, hk, rfl, hok⟩ := hrel
    by_cases hlt : k < s.size
    · go_wp2_with (go_at_call 44; refine (isLetter_any _ _).mono ?_; rintro e w' ⟨rfl, rfl⟩)
      all_goals
        have B1 := (bt_get s k hlt).symm
        have B2 := (bt_get s (k - 1) (by omega)).symm
        have hkn : (k : Int) = ((k : Nat) : Int) := rfl
        first
        | (go_round
           case rel => exact ⟨k + 1, by omega, by go_num, ok_ext hok (by unfold okAt; rw [B1]; first | (rw [B2]; simp_all; omega) | simp_all)⟩
           case measure => simp [intOf]; omega)
        | (go_ret
           exact ⟨ret_bool (isPlain_no hlt (by unfold okAt; rw [B1]; first | (rw [B2]; simp_all; done) | (rw [B2]; simp_all; omega))).symm, rfl⟩)
    · obtain rfl : k = s.size := by omega
      go_wp2
      all_goals
        go_ret
        exact ⟨ret_bool (by rw [isPlain_end hok.out, Bool.eq_iff_iff]; simp; try omega), rfl⟩
end Go.Proofs.YtfnncdngfggcjaaGreatDoor
