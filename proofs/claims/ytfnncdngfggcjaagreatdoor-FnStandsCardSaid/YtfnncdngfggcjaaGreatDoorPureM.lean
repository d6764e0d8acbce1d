/- Contracts of small functions of the reference that only compute: isLetter, IsPlain, Truth. Contracts of small functions that only compute: zzIndex at a text that does not hold the part; errors.New; spec.Truth and parseBool by their lists. Contract of parseBool: it goes by two lists of thirteen words. Contract of spec.Truth: it goes by two lists of thirteen words. -/
import Derived.Test.YtfnncdngfggcjaaGreatDoorRows
import Derived.WalkKit
import Derived.WalkSpells
import Derived.WalkLawsBesides
import Derived.Lib.Hide
import Derived.Handy

namespace Go.Proofs.YtfnncdngfggcjaaGreatDoor
open Go.RowKit

def isLetter (c : Int) : Bool := decide (97 ≤ c ∧ c ≤ 122 ∨ 65 ≤ c ∧ c ≤ 90 ∨ 48 ≤ c ∧ c ≤ 57)

theorem ret_bool {a b : Bool} (h : a = b) : Ending.returned (.bool a) = .returned (.bool b) := by rw [h]

set_option maxHeartbeats 400000 in
theorem isLetter_any (c : Int) (w : World) :
    Calls Tryz.prog 44 #[.int .u8 c] w fun e w' => e = .returned (.bool (isLetter c)) ∧ w = w' := by
  go_enter Tryz.func44, Tryz.ntmps44
  go_wp2
  all_goals
    go_ret
    exact ⟨ret_bool (by unfold isLetter; rw [Bool.eq_iff_iff]; simp; omega), rfl⟩

/-- byte i of a text, as a number -/
def bt (s : ByteArray) (i : Nat) : Int := ((s.data.toList.getD i 0).toNat : Int)

theorem bt_get (s : ByteArray) (i : Nat) (h : i < s.size) : (s[i].toNat : Int) = bt s i := by
  unfold bt
  have : s.data.toList.getD i 0 = s[i] := by
    rw [List.getD_eq_getElem?_getD, List.getElem?_eq_getElem (by simpa using h)]; rfl
  rw [this]

def okAt (s : ByteArray) (i : Nat) : Bool :=
  isLetter (bt s i) || bt s i == 46 || (bt s i == 32 && decide (0 < i) && decide (i + 1 < s.size) && bt s (i - 1) != 32)

def isPlain (s : ByteArray) : Bool := (List.range s.size).all (okAt s) && decide (1 ≤ s.size) && decide (s.size ≤ 60)

theorem isPlain_no {s : ByteArray} {k : Nat} (hk : k < s.size) (h : okAt s k = false) : isPlain s = false := by
  unfold isPlain
  have : (List.range s.size).all (okAt s) = false := List.all_eq_false.2 ⟨k, List.mem_range.2 hk, by rw [h]; simp⟩
  rw [this]; rfl

theorem isPlain_end {s : ByteArray} (h : ∀ j, j < s.size → okAt s j = true) : isPlain s = (decide (1 ≤ (s.size : Int)) && decide ((s.size : Int) ≤ 60)) := by
  unfold isPlain
  have : (List.range s.size).all (okAt s) = true := List.all_eq_true.2 fun j hj => h j (List.mem_range.1 hj)
  rw [this, Bool.eq_iff_iff]; simp; omega

theorem ok_ext {s : ByteArray} {k : Nat} (h : Hid (∀ j, j < k → okAt s j = true)) (hk : okAt s k = true) : Hid (∀ j, j < k + 1 → okAt s j = true) :=
  fun j hj => by
    rcases Nat.lt_or_ge j k with h' | h'
    · exact h.out j h'
    · obtain rfl : j = k := by omega
      exact hk

set_option maxHeartbeats 1000000 in
theorem isPlain_any (s : ByteArray) (w : World) (hs : s.size ≤ 140737488351232) :
    Calls Tryz.prog 21 #[.string s] w fun e w' => e = .returned (.bool (isPlain s)) ∧ w = w' := by
  go_enter Tryz.func21, Tryz.ntmps21
  go_wp2
  go_loop [3] (fun i => ∃ k : Nat, k ≤ s.size ∧ i = .int .i64 k ∧ Hid (∀ j, j < k → okAt s j = true)) (fun i => s.size - (intOf i).toNat)
  case atStart => exact ⟨0, Nat.zero_le _, rfl, fun j hj => absurd hj (Nat.not_lt_zero _)⟩
  case round =>
    obtain ⟨k, hk, rfl, hok⟩ := hrel
    by_cases hlt : k < s.size
    · go_wp2_with (go_at_call 44; refine (isLetter_any _ _).mono ?_; rintro e w' ⟨rfl, rfl⟩)
      all_goals
        have B1 := (bt_get s k hlt).symm
        have B2 := (bt_get s (k - 1) (by omega)).symm
        have hkn : (k : Int) = ((k : Nat) : Int) := rfl
        first
        | (go_round
           case rel => exact ⟨k + 1, by omega, by go_num, ok_ext hok (by unfold okAt; rw [B1]; first | (rw [B2]; simp_all; omega) | simp_all)⟩
           case measure => simp [intOf]; omega)
        | (go_ret
           exact ⟨ret_bool (isPlain_no hlt (by unfold okAt; rw [B1]; first | (rw [B2]; simp_all; done) | (rw [B2]; simp_all; omega))).symm, rfl⟩)
    · obtain rfl : k = s.size := by omega
      go_wp2
      all_goals
        go_ret
        exact ⟨ret_bool (by rw [isPlain_end hok.out, Bool.eq_iff_iff]; simp; try omega), rfl⟩
end Go.Proofs.YtfnncdngfggcjaaGreatDoor

namespace Go.Proofs.YtfnncdngfggcjaaGreatDoor
open Go.RowKit

set_option maxHeartbeats 1000000 in
theorem zzIndex_none (s p : ByteArray) (w : World) (hs : s.size ≤ 140737488351232) (hp : p.size ≤ 140737488351232)
    (hno : Hid (∀ i, i + p.size ≤ s.size → (s.extract i (i + p.size)).toList ≠ p.toList)) :
    Calls Tryz.prog 101 #[.string s, .string p] w fun e w' => e = .returned (.int .i64 (-1)) ∧ w = w' := by
  go_enter Tryz.func101, Tryz.ntmps101
  go_wp2
  go_loop [5] (fun i => ∃ k : Nat, k ≤ s.size + 1 ∧ i = .int .i64 k) (fun i => s.size + 1 - (intOf i).toNat)
  case atStart => exact ⟨0, Nat.zero_le _, rfl⟩
  case round =>
    obtain ⟨k, hk, rfl⟩ := hrel
    by_cases hle : k + p.size ≤ s.size
    · have hne : ((s.extract k (k + p.size)).toList == p.toList) = false := beq_eq_false_iff_ne.2 (hno.out k hle)
      go_wp2
      go_round
      case rel => exact ⟨k + 1, by omega, by go_num⟩
      case measure => simp [intOf]; omega
    · go_wp2
      go_ret
      exact ⟨rfl, rfl⟩

set_option maxHeartbeats 1000000 in
theorem zzIndex_some (s p : ByteArray) (n : Nat) (w : World) (hs : s.size ≤ 140737488351232) (hp : p.size ≤ 140737488351232)
    (hn : n + p.size ≤ s.size) (hat : Hid ((s.extract n (n + p.size)).toList = p.toList))
    (hno : Hid (∀ i, i < n → (s.extract i (i + p.size)).toList ≠ p.toList)) :
    Calls Tryz.prog 101 #[.string s, .string p] w fun e w' => e = .returned (.int .i64 n) ∧ w = w' := by
  go_enter Tryz.func101, Tryz.ntmps101
  go_wp2
  go_loop [5] (fun i => ∃ k : Nat, k ≤ n ∧ i = .int .i64 k) (fun i => n - (intOf i).toNat)
  case atStart => exact ⟨0, Nat.zero_le _, rfl⟩
  case round =>
    obtain ⟨k, hk, rfl⟩ := hrel
    by_cases hlt : k < n
    · have hne : ((s.extract k (k + p.size)).toList == p.toList) = false := beq_eq_false_iff_ne.2 (hno.out k hlt)
      go_wp2
      go_round
      case rel => exact ⟨k + 1, by omega, by go_num⟩
      case measure => simp [intOf]; omega
    · obtain rfl : k = n := by omega
      have hne : ((s.extract k (k + p.size)).toList == p.toList) = true := by rw [hat.out]; simp
      go_wp2
      go_ret
      exact ⟨rfl, rfl⟩

theorem errorsNew_any (s : ByteArray) (w : World) :
    Calls Tryz.prog 67 #[.string s] w fun e w' => e = .returned (.iface 138 (.pointer (some ⟨w.heap.size, 0, none⟩))) ∧ w.alloc (.cells #[.string s] 140) = w' := by
  go_enter Tryz.func67, Tryz.ntmps67
  go_wp2
  go_ret
  exact ⟨rfl, rfl⟩

def yesWords : List (List UInt8) := [[49], [116], [84], [116, 114, 117, 101], [84, 82, 85, 69], [84, 114, 117, 101], [89, 69, 83], [121, 101, 115], [89, 101, 115], [121], [79, 78], [111, 110], [79, 110]]
def noWords : List (List UInt8) := [[48], [102], [70], [102, 97, 108, 115, 101], [70, 65, 76, 83, 69], [70, 97, 108, 115, 101], [78, 79], [110, 111], [78, 111], [110], [79, 70, 70], [111, 102, 102], [79, 102, 102]]

theorem ba_of_list {s : ByteArray} {l : List UInt8} (h : s.toList = l) : s = ⟨l.toArray⟩ := by
  rw [← h, ByteArray.toList_eq]
end Go.Proofs.YtfnncdngfggcjaaGreatDoor

namespace Go.Proofs.YtfnncdngfggcjaaGreatDoor
open Go.RowKit

set_option maxHeartbeats 4000000 in
theorem parseBool_yes (s : ByteArray) (w : World) (h : s.toList ∈ yesWords) :
    Calls Tryz.prog 80 #[.string s] w fun e w' => e = .returned (.tuple #[.bool true, .nilIface]) ∧ w = w' := by
  simp only [yesWords, List.mem_cons, List.not_mem_nil, or_false] at h
  rcases h with h | h | h | h | h | h | h | h | h | h | h | h | h
  all_goals
    rw [ba_of_list h]; clear h
    as_aux_lemma =>
    go_enter Tryz.func80, Tryz.ntmps80
    go_wp2_with fail
    go_ret2
    exact ⟨rfl, rfl⟩

set_option maxHeartbeats 4000000 in
theorem parseBool_no (s : ByteArray) (w : World) (h : s.toList ∈ noWords) :
    Calls Tryz.prog 80 #[.string s] w fun e w' => e = .returned (.tuple #[.bool false, .nilIface]) ∧ w = w' := by
  simp only [noWords, List.mem_cons, List.not_mem_nil, or_false] at h
  rcases h with h | h | h | h | h | h | h | h | h | h | h | h | h
  all_goals
    rw [ba_of_list h]; clear h
    as_aux_lemma =>
    go_enter Tryz.func80, Tryz.ntmps80
    go_wp2_with fail
    go_ret2
    exact ⟨rfl, rfl⟩

set_option maxHeartbeats 4000000 in
theorem parseBool_none (s : ByteArray) (w : World) (h1 : s.toList ∉ yesWords) (h2 : s.toList ∉ noWords) :
    Calls Tryz.prog 80 #[.string s] w fun e w' => (∃ b : Nat, e = .returned (.tuple #[.bool false, .iface 138 (.pointer (some ⟨b, 0, none⟩))])) ∧ Below w.heap.size w w' := by
  simp only [yesWords, noWords, List.mem_cons, List.not_mem_nil, or_false, not_or] at h1 h2
  obtain ⟨a1, a2, a3, a4, a5, a6, a7, a8, a9, a10, a11, a12, a13⟩ := h1
  obtain ⟨b1, b2, b3, b4, b5, b6, b7, b8, b9, b10, b11, b12, b13⟩ := h2
  replace a1 : (s.toList == [49]) = false := beq_eq_false_iff_ne.2 a1
  replace a2 : (s.toList == [116]) = false := beq_eq_false_iff_ne.2 a2
  replace a3 : (s.toList == [84]) = false := beq_eq_false_iff_ne.2 a3
  replace a4 : (s.toList == [116, 114, 117, 101]) = false := beq_eq_false_iff_ne.2 a4
  replace a5 : (s.toList == [84, 82, 85, 69]) = false := beq_eq_false_iff_ne.2 a5
  replace a6 : (s.toList == [84, 114, 117, 101]) = false := beq_eq_false_iff_ne.2 a6
  replace a7 : (s.toList == [89, 69, 83]) = false := beq_eq_false_iff_ne.2 a7
  replace a8 : (s.toList == [121, 101, 115]) = false := beq_eq_false_iff_ne.2 a8
  replace a9 : (s.toList == [89, 101, 115]) = false := beq_eq_false_iff_ne.2 a9
  replace a10 : (s.toList == [121]) = false := beq_eq_false_iff_ne.2 a10
  replace a11 : (s.toList == [79, 78]) = false := beq_eq_false_iff_ne.2 a11
  replace a12 : (s.toList == [111, 110]) = false := beq_eq_false_iff_ne.2 a12
  replace a13 : (s.toList == [79, 110]) = false := beq_eq_false_iff_ne.2 a13
  replace b1 : (s.toList == [48]) = false := beq_eq_false_iff_ne.2 b1
  replace b2 : (s.toList == [102]) = false := beq_eq_false_iff_ne.2 b2
  replace b3 : (s.toList == [70]) = false := beq_eq_false_iff_ne.2 b3
  replace b4 : (s.toList == [102, 97, 108, 115, 101]) = false := beq_eq_false_iff_ne.2 b4
  replace b5 : (s.toList == [70, 65, 76, 83, 69]) = false := beq_eq_false_iff_ne.2 b5
  replace b6 : (s.toList == [70, 97, 108, 115, 101]) = false := beq_eq_false_iff_ne.2 b6
  replace b7 : (s.toList == [78, 79]) = false := beq_eq_false_iff_ne.2 b7
  replace b8 : (s.toList == [110, 111]) = false := beq_eq_false_iff_ne.2 b8
  replace b9 : (s.toList == [78, 111]) = false := beq_eq_false_iff_ne.2 b9
  replace b10 : (s.toList == [110]) = false := beq_eq_false_iff_ne.2 b10
  replace b11 : (s.toList == [79, 70, 70]) = false := beq_eq_false_iff_ne.2 b11
  replace b12 : (s.toList == [111, 102, 102]) = false := beq_eq_false_iff_ne.2 b12
  replace b13 : (s.toList == [79, 102, 102]) = false := beq_eq_false_iff_ne.2 b13
  go_enter Tryz.func80, Tryz.ntmps80
  go_wp2_with (go_at_call 67; refine (errorsNew_any _ _).mono ?_; rintro e w' ⟨rfl, rfl⟩)
  go_ret2
  exact ⟨⟨_, rfl⟩, (Below.refl _ _).alloc (Nat.le_refl _) _⟩
end Go.Proofs.YtfnncdngfggcjaaGreatDoor

namespace Go.Proofs.YtfnncdngfggcjaaGreatDoor
open Go.RowKit


theorem blw1 (w : World) (o : Obj) : Below w.heap.size w (w.alloc o) := (Below.refl _ _).alloc (Nat.le_refl _) _
theorem blw2 (w : World) (o o' : Obj) : Below w.heap.size w ((w.alloc o).alloc o') := (blw1 w o).alloc (by simp) _

def truthVal (s : List UInt8) : Value := if s ∈ yesWords then .tuple #[.bool true, .bool true] else if s ∈ noWords then .tuple #[.bool false, .bool true] else .tuple #[.bool false, .bool false]

theorem truth_at_yes {s : List UInt8} (h : s ∈ yesWords) : truthVal s = .tuple #[.bool true, .bool true] := if_pos h
theorem truth_at_no {s : List UInt8} (h0 : Hid (s ∉ yesWords)) (h : s ∈ noWords) : truthVal s = .tuple #[.bool false, .bool true] := by unfold truthVal; rw [if_neg h0.out, if_pos h]
theorem truth_at_none {s : List UInt8} (h0 : Hid (s ∉ yesWords)) (h : s ∉ noWords) : truthVal s = .tuple #[.bool false, .bool false] := by unfold truthVal; rw [if_neg h0.out, if_neg h]
theorem not_mem_of_all {s : List UInt8} {L : List (List UInt8)} (h : ∀ j, j < 13 → s ≠ L.getD j []) (hl : L.length = 13) : s ∉ L := fun hm => by
  obtain ⟨j, hj, e⟩ := List.getElem_of_mem hm
  exact h j (by omega) (by rw [List.getD_eq_getElem?_getD, List.getElem?_eq_getElem hj]; exact e.symm)
theorem ext_all {s : List UInt8} {L : List (List UInt8)} {k : Nat} (h : Hid (∀ j, j < k → s ≠ L.getD j [])) (hk : s ≠ L.getD k []) : Hid (∀ j, j < k + 1 → s ≠ L.getD j []) := fun j hj => by
  rcases Nat.lt_or_ge j k with h' | h'
  · exact h.out j h'
  · obtain rfl : j = k := by omega
    exact hk

set_option maxHeartbeats 4000000 in
theorem truth_any (s : ByteArray) (w : World) :
    Calls Tryz.prog 31 #[.string s] w fun e w' => e = .returned (truthVal s.toList) ∧ Below w.heap.size w w' := by
  go_enter Tryz.func31, Tryz.ntmps31
  go_wp2
  go_loop [10] (fun i => ∃ k : Nat, k ≤ 13 ∧ i = .int .i64 k ∧ Hid (∀ j, j < k → s.toList ≠ yesWords.getD j [])) (fun i => 13 - (intOf i).toNat)
  case atStart => exact ⟨0, Nat.zero_le _, rfl, fun j hj => absurd hj (Nat.not_lt_zero _)⟩
  case round =>
    obtain ⟨k, hk, rfl, hno⟩ := hrel
    have hcase : k = 0 ∨ k = 1 ∨ k = 2 ∨ k = 3 ∨ k = 4 ∨ k = 5 ∨ k = 6 ∨ k = 7 ∨ k = 8 ∨ k = 9 ∨ k = 10 ∨ k = 11 ∨ k = 12 ∨ k = 13 := by omega
    clear hk
    rcases hcase with rfl | rfl | rfl | rfl | rfl | rfl | rfl | rfl | rfl | rfl | rfl | rfl | rfl | rfl
    · go_wp2
      · have h : (s.toList == [49]) = true := by assumption
        go_ret2
        exact ⟨by rw [truth_at_yes (by rw [beq_iff_eq.1 h]; decide)]; rfl, blw1 _ _⟩
      · have h : (s.toList == [49]) = false := by assumption
        go_round
        case rel => exact ⟨1, by omega, by go_num, ext_all hno (beq_eq_false_iff_ne.1 h)⟩
        case measure => simp [intOf]
    · go_wp2
      · have h : (s.toList == [116]) = true := by assumption
        go_ret2
        exact ⟨by rw [truth_at_yes (by rw [beq_iff_eq.1 h]; decide)]; rfl, blw1 _ _⟩
      · have h : (s.toList == [116]) = false := by assumption
        go_round
        case rel => exact ⟨2, by omega, by go_num, ext_all hno (beq_eq_false_iff_ne.1 h)⟩
        case measure => simp [intOf]
    · go_wp2
      · have h : (s.toList == [84]) = true := by assumption
        go_ret2
        exact ⟨by rw [truth_at_yes (by rw [beq_iff_eq.1 h]; decide)]; rfl, blw1 _ _⟩
      · have h : (s.toList == [84]) = false := by assumption
        go_round
        case rel => exact ⟨3, by omega, by go_num, ext_all hno (beq_eq_false_iff_ne.1 h)⟩
        case measure => simp [intOf]
    · go_wp2
      · have h : (s.toList == [116, 114, 117, 101]) = true := by assumption
        go_ret2
        exact ⟨by rw [truth_at_yes (by rw [beq_iff_eq.1 h]; decide)]; rfl, blw1 _ _⟩
      · have h : (s.toList == [116, 114, 117, 101]) = false := by assumption
        go_round
        case rel => exact ⟨4, by omega, by go_num, ext_all hno (beq_eq_false_iff_ne.1 h)⟩
        case measure => simp [intOf]
    · go_wp2
      · have h : (s.toList == [84, 82, 85, 69]) = true := by assumption
        go_ret2
        exact ⟨by rw [truth_at_yes (by rw [beq_iff_eq.1 h]; decide)]; rfl, blw1 _ _⟩
      · have h : (s.toList == [84, 82, 85, 69]) = false := by assumption
        go_round
        case rel => exact ⟨5, by omega, by go_num, ext_all hno (beq_eq_false_iff_ne.1 h)⟩
        case measure => simp [intOf]
    · go_wp2
      · have h : (s.toList == [84, 114, 117, 101]) = true := by assumption
        go_ret2
        exact ⟨by rw [truth_at_yes (by rw [beq_iff_eq.1 h]; decide)]; rfl, blw1 _ _⟩
      · have h : (s.toList == [84, 114, 117, 101]) = false := by assumption
        go_round
        case rel => exact ⟨6, by omega, by go_num, ext_all hno (beq_eq_false_iff_ne.1 h)⟩
        case measure => simp [intOf]
    · go_wp2
      · have h : (s.toList == [89, 69, 83]) = true := by assumption
        go_ret2
        exact ⟨by rw [truth_at_yes (by rw [beq_iff_eq.1 h]; decide)]; rfl, blw1 _ _⟩
      · have h : (s.toList == [89, 69, 83]) = false := by assumption
        go_round
        case rel => exact ⟨7, by omega, by go_num, ext_all hno (beq_eq_false_iff_ne.1 h)⟩
        case measure => simp [intOf]
    · go_wp2
      · have h : (s.toList == [121, 101, 115]) = true := by assumption
        go_ret2
        exact ⟨by rw [truth_at_yes (by rw [beq_iff_eq.1 h]; decide)]; rfl, blw1 _ _⟩
      · have h : (s.toList == [121, 101, 115]) = false := by assumption
        go_round
        case rel => exact ⟨8, by omega, by go_num, ext_all hno (beq_eq_false_iff_ne.1 h)⟩
        case measure => simp [intOf]
    · go_wp2
      · have h : (s.toList == [89, 101, 115]) = true := by assumption
        go_ret2
        exact ⟨by rw [truth_at_yes (by rw [beq_iff_eq.1 h]; decide)]; rfl, blw1 _ _⟩
      · have h : (s.toList == [89, 101, 115]) = false := by assumption
        go_round
        case rel => exact ⟨9, by omega, by go_num, ext_all hno (beq_eq_false_iff_ne.1 h)⟩
        case measure => simp [intOf]
    · go_wp2
      · have h : (s.toList == [121]) = true := by assumption
        go_ret2
        exact ⟨by rw [truth_at_yes (by rw [beq_iff_eq.1 h]; decide)]; rfl, blw1 _ _⟩
      · have h : (s.toList == [121]) = false := by assumption
        go_round
        case rel => exact ⟨10, by omega, by go_num, ext_all hno (beq_eq_false_iff_ne.1 h)⟩
        case measure => simp [intOf]
    · go_wp2
      · have h : (s.toList == [79, 78]) = true := by assumption
        go_ret2
        exact ⟨by rw [truth_at_yes (by rw [beq_iff_eq.1 h]; decide)]; rfl, blw1 _ _⟩
      · have h : (s.toList == [79, 78]) = false := by assumption
        go_round
        case rel => exact ⟨11, by omega, by go_num, ext_all hno (beq_eq_false_iff_ne.1 h)⟩
        case measure => simp [intOf]
    · go_wp2
      · have h : (s.toList == [111, 110]) = true := by assumption
        go_ret2
        exact ⟨by rw [truth_at_yes (by rw [beq_iff_eq.1 h]; decide)]; rfl, blw1 _ _⟩
      · have h : (s.toList == [111, 110]) = false := by assumption
        go_round
        case rel => exact ⟨12, by omega, by go_num, ext_all hno (beq_eq_false_iff_ne.1 h)⟩
        case measure => simp [intOf]
    · go_wp2
      · have h : (s.toList == [79, 110]) = true := by assumption
        go_ret2
        exact ⟨by rw [truth_at_yes (by rw [beq_iff_eq.1 h]; decide)]; rfl, blw1 _ _⟩
      · have h : (s.toList == [79, 110]) = false := by assumption
        go_round
        case rel => exact ⟨13, by omega, by go_num, ext_all hno (beq_eq_false_iff_ne.1 h)⟩
        case measure => simp [intOf]
    · have hny : Hid (s.toList ∉ yesWords) := not_mem_of_all hno.out rfl
      clear hno
      go_wp2
      go_loop [20] (fun i => ∃ k : Nat, k ≤ 13 ∧ i = .int .i64 k ∧ Hid (∀ j, j < k → s.toList ≠ noWords.getD j [])) (fun i => 13 - (intOf i).toNat)
      case atStart => exact ⟨0, Nat.zero_le _, rfl, fun j hj => absurd hj (Nat.not_lt_zero _)⟩
      case round =>
        obtain ⟨k, hk, rfl, hno⟩ := hrel
        have hcase : k = 0 ∨ k = 1 ∨ k = 2 ∨ k = 3 ∨ k = 4 ∨ k = 5 ∨ k = 6 ∨ k = 7 ∨ k = 8 ∨ k = 9 ∨ k = 10 ∨ k = 11 ∨ k = 12 ∨ k = 13 := by omega
        clear hk
        rcases hcase with rfl | rfl | rfl | rfl | rfl | rfl | rfl | rfl | rfl | rfl | rfl | rfl | rfl | rfl
        · go_wp2
          · have h : (s.toList == [48]) = true := by assumption
            go_ret2
            exact ⟨by rw [truth_at_no hny (by rw [beq_iff_eq.1 h]; decide)]; rfl, blw2 _ _ _⟩
          · have h : (s.toList == [48]) = false := by assumption
            go_round
            case rel => exact ⟨1, by omega, by go_num, ext_all hno (beq_eq_false_iff_ne.1 h)⟩
            case measure => simp [intOf]
        · go_wp2
          · have h : (s.toList == [102]) = true := by assumption
            go_ret2
            exact ⟨by rw [truth_at_no hny (by rw [beq_iff_eq.1 h]; decide)]; rfl, blw2 _ _ _⟩
          · have h : (s.toList == [102]) = false := by assumption
            go_round
            case rel => exact ⟨2, by omega, by go_num, ext_all hno (beq_eq_false_iff_ne.1 h)⟩
            case measure => simp [intOf]
        · go_wp2
          · have h : (s.toList == [70]) = true := by assumption
            go_ret2
            exact ⟨by rw [truth_at_no hny (by rw [beq_iff_eq.1 h]; decide)]; rfl, blw2 _ _ _⟩
          · have h : (s.toList == [70]) = false := by assumption
            go_round
            case rel => exact ⟨3, by omega, by go_num, ext_all hno (beq_eq_false_iff_ne.1 h)⟩
            case measure => simp [intOf]
        · go_wp2
          · have h : (s.toList == [102, 97, 108, 115, 101]) = true := by assumption
            go_ret2
            exact ⟨by rw [truth_at_no hny (by rw [beq_iff_eq.1 h]; decide)]; rfl, blw2 _ _ _⟩
          · have h : (s.toList == [102, 97, 108, 115, 101]) = false := by assumption
            go_round
            case rel => exact ⟨4, by omega, by go_num, ext_all hno (beq_eq_false_iff_ne.1 h)⟩
            case measure => simp [intOf]
        · go_wp2
          · have h : (s.toList == [70, 65, 76, 83, 69]) = true := by assumption
            go_ret2
            exact ⟨by rw [truth_at_no hny (by rw [beq_iff_eq.1 h]; decide)]; rfl, blw2 _ _ _⟩
          · have h : (s.toList == [70, 65, 76, 83, 69]) = false := by assumption
            go_round
            case rel => exact ⟨5, by omega, by go_num, ext_all hno (beq_eq_false_iff_ne.1 h)⟩
            case measure => simp [intOf]
        · go_wp2
          · have h : (s.toList == [70, 97, 108, 115, 101]) = true := by assumption
            go_ret2
            exact ⟨by rw [truth_at_no hny (by rw [beq_iff_eq.1 h]; decide)]; rfl, blw2 _ _ _⟩
          · have h : (s.toList == [70, 97, 108, 115, 101]) = false := by assumption
            go_round
            case rel => exact ⟨6, by omega, by go_num, ext_all hno (beq_eq_false_iff_ne.1 h)⟩
            case measure => simp [intOf]
        · go_wp2
          · have h : (s.toList == [78, 79]) = true := by assumption
            go_ret2
            exact ⟨by rw [truth_at_no hny (by rw [beq_iff_eq.1 h]; decide)]; rfl, blw2 _ _ _⟩
          · have h : (s.toList == [78, 79]) = false := by assumption
            go_round
            case rel => exact ⟨7, by omega, by go_num, ext_all hno (beq_eq_false_iff_ne.1 h)⟩
            case measure => simp [intOf]
        · go_wp2
          · have h : (s.toList == [110, 111]) = true := by assumption
            go_ret2
            exact ⟨by rw [truth_at_no hny (by rw [beq_iff_eq.1 h]; decide)]; rfl, blw2 _ _ _⟩
          · have h : (s.toList == [110, 111]) = false := by assumption
            go_round
            case rel => exact ⟨8, by omega, by go_num, ext_all hno (beq_eq_false_iff_ne.1 h)⟩
            case measure => simp [intOf]
        · go_wp2
          · have h : (s.toList == [78, 111]) = true := by assumption
            go_ret2
            exact ⟨by rw [truth_at_no hny (by rw [beq_iff_eq.1 h]; decide)]; rfl, blw2 _ _ _⟩
          · have h : (s.toList == [78, 111]) = false := by assumption
            go_round
            case rel => exact ⟨9, by omega, by go_num, ext_all hno (beq_eq_false_iff_ne.1 h)⟩
            case measure => simp [intOf]
        · go_wp2
          · have h : (s.toList == [110]) = true := by assumption
            go_ret2
            exact ⟨by rw [truth_at_no hny (by rw [beq_iff_eq.1 h]; decide)]; rfl, blw2 _ _ _⟩
          · have h : (s.toList == [110]) = false := by assumption
            go_round
            case rel => exact ⟨10, by omega, by go_num, ext_all hno (beq_eq_false_iff_ne.1 h)⟩
            case measure => simp [intOf]
        · go_wp2
          · have h : (s.toList == [79, 70, 70]) = true := by assumption
            go_ret2
            exact ⟨by rw [truth_at_no hny (by rw [beq_iff_eq.1 h]; decide)]; rfl, blw2 _ _ _⟩
          · have h : (s.toList == [79, 70, 70]) = false := by assumption
            go_round
            case rel => exact ⟨11, by omega, by go_num, ext_all hno (beq_eq_false_iff_ne.1 h)⟩
            case measure => simp [intOf]
        · go_wp2
          · have h : (s.toList == [111, 102, 102]) = true := by assumption
            go_ret2
            exact ⟨by rw [truth_at_no hny (by rw [beq_iff_eq.1 h]; decide)]; rfl, blw2 _ _ _⟩
          · have h : (s.toList == [111, 102, 102]) = false := by assumption
            go_round
            case rel => exact ⟨12, by omega, by go_num, ext_all hno (beq_eq_false_iff_ne.1 h)⟩
            case measure => simp [intOf]
        · go_wp2
          · have h : (s.toList == [79, 102, 102]) = true := by assumption
            go_ret2
            exact ⟨by rw [truth_at_no hny (by rw [beq_iff_eq.1 h]; decide)]; rfl, blw2 _ _ _⟩
          · have h : (s.toList == [79, 102, 102]) = false := by assumption
            go_round
            case rel => exact ⟨13, by omega, by go_num, ext_all hno (beq_eq_false_iff_ne.1 h)⟩
            case measure => simp [intOf]
        · have hnn := not_mem_of_all hno.out rfl
          have Hnn := Lib.hid hnn
          clear hno hnn
          go_wp2
          go_ret2
          exact ⟨by rw [truth_at_none hny Hnn.out]; rfl, blw2 _ _ _⟩
end Go.Proofs.YtfnncdngfggcjaaGreatDoor
