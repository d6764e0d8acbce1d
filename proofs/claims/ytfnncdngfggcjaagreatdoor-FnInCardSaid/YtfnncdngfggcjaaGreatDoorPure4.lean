/- Contract of spec.Truth: it goes by two lists of thirteen words. -/
import Derived.Test.YtfnncdngfggcjaaGreatDoorPure2
namespace Go.Proofs.YtfnncdngfggcjaaGreatDoor
open Go.RowKit


theorem blw1 (w : World) (o : Obj) : Below w.heap.size w (w.alloc o) := (Below.refl _ _).alloc (Nat.le_refl _) _
theorem blw2 (w : World) (o o' : Obj) : Below w.heap.size w ((w.alloc o).alloc o') := (blw1 w o).alloc (by simp) _

def truthVal (s : List UInt8) : Value := if s ∈ yesWords then .tuple #[.bool true, .bool true] else if s ∈ noWords then .tuple #[.bool false, .bool true] else .tuple #[.bool false, .bool false]

theorem truth_at_yes {s : List UInt8} (h : s ∈ yesWords) : truthVal s = .tuple #[.bool true, .bool true] := if_pos h
theorem truth_at_no {s : List UInt8} (h0 : Hid (s ∉ yesWords)) (h : s ∈ noWords) : truthVal s = .tuple #[.bool false, .bool true] := by unfold truthVal; rw [if_neg h0.out, if_pos h]
theorem truth_at_none {s : List UInt8} (h0 : Hid (s ∉ yesWords)) (h : s ∉ noWords) : truthVal s = .tuple #[.bool false, .bool false] := by unfold truthVal; rw [if_neg h0.out, if_neg h]
theorem not_mem_of_all {s : List UInt8} {L : List (List UInt8)} (h : ∀ j, j < 13 → s ≠ L.getD j []) (hl : L.length = 13) : s ∉ L := fun hm => by
  obtain ⟨j, hj, e⟩ := List.getElem_of_mem hm
  exact h j (by omega) (by rw [List.getD_eq_getElem?_getD, List.getElem?_eq_getElem hj]; exact e.symm)
theorem ext_all {s : List UInt8} {L : List (List UInt8)} {k : Nat} (h : Hid (∀ j, j < k → s ≠ L.getD j [])) (hk : s ≠ L.getD k []) : Hid (∀ j, j < k + 1 → s ≠ L.getD j []) := fun j hj => by
  rcases Nat.lt_or_ge j k with h' | h'
  · exact h.out j h'
  · obtain rfl : j = k := by omega
    exact hk

set_option maxHeartbeats 4000000 in
theorem truth_any (s : ByteArray) (w : World) :
    Calls Tryz.prog 31 #[.string s] w fun e w' => e = .returned (truthVal s.toList) ∧ Below w.heap.size w w' := by
  go_enter Tryz.func31, Tryz.ntmps31
  go_wp2
  go_loop [10] (fun i => ∃ k : Nat, k ≤ 13 ∧ i = .int .i64 k ∧ Hid (∀ j, j < k → s.toList ≠ yesWords.getD j [])) (fun i => 13 - (intOf i).toNat)
  case atStart => exact ⟨0, Nat.zero_le _, rfl, fun j hj => absurd hj (Nat.not_lt_zero _)⟩
  case round =>
    obtain ⟨k, hk, rfl, hno⟩ := hrel
    have hcase : k = 0 ∨ k = 1 ∨ k = 2 ∨ k = 3 ∨ k = 4 ∨ k = 5 ∨ k = 6 ∨ k = 7 ∨ k = 8 ∨ k = 9 ∨ k = 10 ∨ k = 11 ∨ k = 12 ∨ k = 13 := by omega
    clear hk
    rcases hcase with rfl | rfl | rfl | rfl | rfl | rfl | rfl | rfl | rfl | rfl | rfl | rfl | rfl | rfl
    · go_wp2
      · have h : (s.toList == [49]) = true := by assumption
        go_ret2
        exact ⟨by rw [truth_at_yes (by rw [beq_iff_eq.1 h]; decide)]; rfl, blw1 _ _⟩
      · have h : (s.toList == [49]) = false := by assumption
        go_round
        case rel => exact ⟨1, by omega, by go_num, ext_all hno (beq_eq_false_iff_ne.1 h)⟩
        case measure => simp [intOf]
    · go_wp2
      · have h : (s.toList == [116]) = true := by assumption
        go_ret2
        exact ⟨by rw [truth_at_yes (by rw [beq_iff_eq.1 h]; decide)]; rfl, blw1 _ _⟩
      · have h : (s.toList == [116]) = false := by assumption
        go_round
        case rel => exact ⟨2, by omega, by go_num, ext_all hno (beq_eq_false_iff_ne.1 h)⟩
        case measure => simp [intOf]
    · go_wp2
      · have h : (s.toList == [84]) = true := by assumption
        go_ret2
        exact ⟨by rw [truth_at_yes (by rw [beq_iff_eq.1 h]; decide)]; rfl, blw1 _ _⟩
      · have h : (s.toList == [84]) = false := by assumption
        go_round
        case rel => exact ⟨3, by omega, by go_num, ext_all hno (beq_eq_false_iff_ne.1 h)⟩
        case measure => simp [intOf]
    · go_wp2
      · have h : (s.toList == [116, 114, 117, 101]) = true := by assumption
        go_ret2
        exact ⟨by rw [truth_at_yes (by rw [beq_iff_eq.1 h]; decide)]; rfl, blw1 _ _⟩
      · have h : (s.toList == [116, 114, 117, 101]) = false := by assumption
        go_round
        case rel => exact ⟨4, by omega, by go_num, ext_all hno (beq_eq_false_iff_ne.1 h)⟩
        case measure => simp [intOf]
    · go_wp2
      · have h : (s.toList == [84, 82, 85, 69]) = true := by assumption
        go_ret2
        exact ⟨by rw [truth_at_yes (by rw [beq_iff_eq.1 h]; decide)]; rfl, blw1 _ _⟩
      · have h : (s.toList == [84, 82, 85, 69]) = false := by assumption
        go_round
        case rel => exact ⟨5, by omega, by go_num, ext_all hno (beq_eq_false_iff_ne.1 h)⟩
        case measure => simp [intOf]
    · go_wp2
      · have h : (s.toList == [84, 114, 117, 101]) = true := by assumption
        go_ret2
        exact ⟨by rw [truth_at_yes (by rw [beq_iff_eq.1 h]; decide)]; rfl, blw1 _ _⟩
      · have h : (s.toList == [84, 114, 117, 101]) = false := by assumption
        go_round
        case rel => exact ⟨6, by omega, by go_num, ext_all hno (beq_eq_false_iff_ne.1 h)⟩
        case measure => simp [intOf]
    · go_wp2
      · have h : (s.toList == [89, 69, 83]) = true := by assumption
        go_ret2
        exact ⟨by rw [truth_at_yes (by rw [beq_iff_eq.1 h]; decide)]; rfl, blw1 _ _⟩
      · have h : (s.toList == [89, 69, 83]) = false := by assumption
        go_round
        case rel => exact ⟨7, by omega, by go_num, ext_all hno (beq_eq_false_iff_ne.1 h)⟩
        case measure => simp [intOf]
    · go_wp2
      · have h : (s.toList == [121, 101, 115]) = true := by assumption
        go_ret2
        exact ⟨by rw [truth_at_yes (by rw [beq_iff_eq.1 h]; decide)]; rfl, blw1 _ _⟩
      · have h : (s.toList == [121, 101, 115]) = false := by assumption
        go_round
        case rel => exact ⟨8, by omega, by go_num, ext_all hno (beq_eq_false_iff_ne.1 h)⟩
        case measure => simp [intOf]
    · go_wp2
      · have h : (s.toList == [89, 101, 115]) = true := by assumption
        go_ret2
        exact ⟨by rw [truth_at_yes (by rw [beq_iff_eq.1 h]; decide)]; rfl, blw1 _ _⟩
      · have h : (s.toList == [89, 101, 115]) = false := by assumption
        go_round
        case rel => exact ⟨9, by omega, by go_num, ext_all hno (beq_eq_false_iff_ne.1 h)⟩
        case measure => simp [intOf]
    · go_wp2
      · have h : (s.toList == [121]) = true := by assumption
        go_ret2
        exact ⟨by rw [truth_at_yes (by rw [beq_iff_eq.1 h]; decide)]; rfl, blw1 _ _⟩
      · have h : (s.toList == [121]) = false := by assumption
        go_round
        case rel => exact ⟨10, by omega, by go_num, ext_all hno (beq_eq_false_iff_ne.1 h)⟩
        case measure => simp [intOf]
    · go_wp2
      · have h : (s.toList == [79, 78]) = true := by assumption
        go_ret2
        exact ⟨by rw [truth_at_yes (by rw [beq_iff_eq.1 h]; decide)]; rfl, blw1 _ _⟩
      · have h : (s.toList == [79, 78]) = false := by assumption
        go_round
        case rel => exact ⟨11, by omega, by go_num, ext_all hno (beq_eq_false_iff_ne.1 h)⟩
        case measure => simp [intOf]
    · go_wp2
      · have h : (s.toList == [111, 110]) = true := by assumption
        go_ret2
        exact ⟨by rw [truth_at_yes (by rw [beq_iff_eq.1 h]; decide)]; rfl, blw1 _ _⟩
      · have h : (s.toList == [111, 110]) = false := by assumption
        go_round
        case rel => exact ⟨12, by omega, by go_num, ext_all hno (beq_eq_false_iff_ne.1 h)⟩
        case measure => simp [intOf]
    · go_wp2
      · have h : (s.toList == [79, 110]) = true := by assumption
        go_ret2
        exact ⟨by rw [truth_at_yes (by rw [beq_iff_eq.1 h]; decide)]; rfl, blw1 _ _⟩
      · have h : (s.toList == [79, 110]) = false := by assumption
        go_round
        case rel => exact ⟨13, by omega, by go_num, ext_all hno (beq_eq_false_iff_ne.1 h)⟩
        case measure => simp [intOf]
    · have hny : Hid (s.toList ∉ yesWords) := not_mem_of_all hno.out rfl
      clear hno
      go_wp2
      go_loop [20] (fun i => ∃ k : Nat, k ≤ 13 ∧ i = .int .i64 k ∧ Hid (∀ j, j < k → s.toList ≠ noWords.getD j [])) (fun i => 13 - (intOf i).toNat)
      case atStart => exact ⟨0, Nat.zero_le _, rfl, fun j hj => absurd hj (Nat.not_lt_zero _)⟩
      case round =>
        obtain ⟨k, hk, rfl, hno⟩ := hrel
        have hcase : k = 0 ∨ k = 1 ∨ k = 2 ∨ k = 3 ∨ k = 4 ∨ k = 5 ∨ k = 6 ∨ k = 7 ∨ k = 8 ∨ k = 9 ∨ k = 10 ∨ k = 11 ∨ k = 12 ∨ k = 13 := by omega
        clear hk
        rcases hcase with rfl | rfl | rfl | rfl | rfl | rfl | rfl | rfl | rfl | rfl | rfl | rfl | rfl | rfl
        · go_wp2
          · have h : (s.toList == [48]) = true := by assumption
            go_ret2
            exact ⟨by rw [truth_at_no hny (by rw [beq_iff_eq.1 h]; decide)]; rfl, blw2 _ _ _⟩
          · have h : (s.toList == [48]) = false := by assumption
            go_round
            case rel => exact ⟨1, by omega, by go_num, ext_all hno (beq_eq_false_iff_ne.1 h)⟩
            case measure => simp [intOf]
        · go_wp2
          · have h : (s.toList == [102]) = true := by assumption
            go_ret2
            exact ⟨by rw [truth_at_no hny (by rw [beq_iff_eq.1 h]; decide)]; rfl, blw2 _ _ _⟩
          · have h : (s.toList == [102]) = false := by assumption
            go_round
            case rel => exact ⟨2, by omega, by go_num, ext_all hno (beq_eq_false_iff_ne.1 h)⟩
            case measure => simp [intOf]
        · go_wp2
          · have h : (s.toList == [70]) = true := by assumption
            go_ret2
            exact ⟨by rw [truth_at_no hny (by rw [beq_iff_eq.1 h]; decide)]; rfl, blw2 _ _ _⟩
          · have h : (s.toList == [70]) = false := by assumption
            go_round
            case rel => exact ⟨3, by omega, by go_num, ext_all hno (beq_eq_false_iff_ne.1 h)⟩
            case measure => simp [intOf]
        · go_wp2
          · have h : (s.toList == [102, 97, 108, 115, 101]) = true := by assumption
            go_ret2
            exact ⟨by rw [truth_at_no hny (by rw [beq_iff_eq.1 h]; decide)]; rfl, blw2 _ _ _⟩
          · have h : (s.toList == [102, 97, 108, 115, 101]) = false := by assumption
            go_round
            case rel => exact ⟨4, by omega, by go_num, ext_all hno (beq_eq_false_iff_ne.1 h)⟩
            case measure => simp [intOf]
        · go_wp2
          · have h : (s.toList == [70, 65, 76, 83, 69]) = true := by assumption
            go_ret2
            exact ⟨by rw [truth_at_no hny (by rw [beq_iff_eq.1 h]; decide)]; rfl, blw2 _ _ _⟩
          · have h : (s.toList == [70, 65, 76, 83, 69]) = false := by assumption
            go_round
            case rel => exact ⟨5, by omega, by go_num, ext_all hno (beq_eq_false_iff_ne.1 h)⟩
            case measure => simp [intOf]
        · go_wp2
          · have h : (s.toList == [70, 97, 108, 115, 101]) = true := by assumption
            go_ret2
            exact ⟨by rw [truth_at_no hny (by rw [beq_iff_eq.1 h]; decide)]; rfl, blw2 _ _ _⟩
          · have h : (s.toList == [70, 97, 108, 115, 101]) = false := by assumption
            go_round
            case rel => exact ⟨6, by omega, by go_num, ext_all hno (beq_eq_false_iff_ne.1 h)⟩
            case measure => simp [intOf]
        · go_wp2
          · have h : (s.toList == [78, 79]) = true := by assumption
            go_ret2
            exact ⟨by rw [truth_at_no hny (by rw [beq_iff_eq.1 h]; decide)]; rfl, blw2 _ _ _⟩
          · have h : (s.toList == [78, 79]) = false := by assumption
            go_round
            case rel => exact ⟨7, by omega, by go_num, ext_all hno (beq_eq_false_iff_ne.1 h)⟩
            case measure => simp [intOf]
        · go_wp2
          · have h : (s.toList == [110, 111]) = true := by assumption
            go_ret2
            exact ⟨by rw [truth_at_no hny (by rw [beq_iff_eq.1 h]; decide)]; rfl, blw2 _ _ _⟩
          · have h : (s.toList == [110, 111]) = false := by assumption
            go_round
            case rel => exact ⟨8, by omega, by go_num, ext_all hno (beq_eq_false_iff_ne.1 h)⟩
            case measure => simp [intOf]
        · go_wp2
          · have h : (s.toList == [78, 111]) = true := by assumption
            go_ret2
            exact ⟨by rw [truth_at_no hny (by rw [beq_iff_eq.1 h]; decide)]; rfl, blw2 _ _ _⟩
          · have h : (s.toList == [78, 111]) = false := by assumption
            go_round
            case rel => exact ⟨9, by omega, by go_num, ext_all hno (beq_eq_false_iff_ne.1 h)⟩
            case measure => simp [intOf]
        · go_wp2
          · have h : (s.toList == [110]) = true := by assumption
            go_ret2
            exact ⟨by rw [truth_at_no hny (by rw [beq_iff_eq.1 h]; decide)]; rfl, blw2 _ _ _⟩
          · have h : (s.toList == [110]) = false := by assumption
            go_round
            case rel => exact ⟨10, by omega, by go_num, ext_all hno (beq_eq_false_iff_ne.1 h)⟩
            case measure => simp [intOf]
        · go_wp2
          · have h : (s.toList == [79, 70, 70]) = true := by assumption
            go_ret2
            exact ⟨by rw [truth_at_no hny (by rw [beq_iff_eq.1 h]; decide)]; rfl, blw2 _ _ _⟩
          · have h : (s.toList == [79, 70, 70]) = false := by assumption
            go_round
            case rel => exact ⟨11, by omega, by go_num, ext_all hno (beq_eq_false_iff_ne.1 h)⟩
            case measure => simp [intOf]
        · go_wp2
          · have h : (s.toList == [111, 102, 102]) = true := by assumption
            go_ret2
            exact ⟨by rw [truth_at_no hny (by rw [beq_iff_eq.1 h]; decide)]; rfl, blw2 _ _ _⟩
          · have h : (s.toList == [111, 102, 102]) = false := by assumption
            go_round
            case rel => exact ⟨12, by omega, by go_num, ext_all hno (beq_eq_false_iff_ne.1 h)⟩
            case measure => simp [intOf]
        · go_wp2
          · have h : (s.toList == [79, 102, 102]) = true := by assumption
            go_ret2
            exact ⟨by rw [truth_at_no hny (by rw [beq_iff_eq.1 h]; decide)]; rfl, blw2 _ _ _⟩
          · have h : (s.toList == [79, 102, 102]) = false := by assumption
            go_round
            case rel => exact ⟨13, by omega, by go_num, ext_all hno (beq_eq_false_iff_ne.1 h)⟩
            case measure => simp [intOf]
        · have hnn := not_mem_of_all hno.out rfl
          have Hnn := Lib.hid hnn
          clear hno hnn
          go_wp2
          go_ret2
          exact ⟨by rw [truth_at_none hny Hnn.out]; rfl, blw2 _ _ _⟩
end Go.Proofs.YtfnncdngfggcjaaGreatDoor
