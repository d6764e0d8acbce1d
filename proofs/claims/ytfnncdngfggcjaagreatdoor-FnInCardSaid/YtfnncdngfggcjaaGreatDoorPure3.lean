/- Contract of parseBool: it goes by two lists of thirteen words. -/
import Derived.Test.YtfnncdngfggcjaaGreatDoorPure2
namespace Go.Proofs.YtfnncdngfggcjaaGreatDoor
open Go.RowKit

set_option maxHeartbeats 4000000 in
theorem parseBool_yes (s : ByteArray) (w : World) (h : s.toList ∈ yesWords) :
    Calls Tryz.prog 80 #[.string s] w fun e w' => e = .returned (.tuple #[.bool true, .nilIface]) ∧ w = w' := by
  simp only [yesWords, List.mem_cons, List.not_mem_nil, or_false] at h
  rcases h with h | h | h | h | h | h | h | h | h | h | h | h | h
  all_goals
    rw [ba_of_list h]; clear h
    as_aux_lemma =>
    go_enter Tryz.func80, Tryz.ntmps80
    go_wp2_with fail
    go_ret2
    exact ⟨rfl, rfl⟩

set_option maxHeartbeats 4000000 in
theorem parseBool_no (s : ByteArray) (w : World) (h : s.toList ∈ noWords) :
    Calls Tryz.prog 80 #[.string s] w fun e w' => e = .returned (.tuple #[.bool false, .nilIface]) ∧ w = w' := by
  simp only [noWords, List.mem_cons, List.not_mem_nil, or_false] at h
  rcases h with h | h | h | h | h | h | h | h | h | h | h | h | h
  all_goals
    rw [ba_of_list h]; clear h
    as_aux_lemma =>
    go_enter Tryz.func80, Tryz.ntmps80
    go_wp2_with fail
    go_ret2
    exact ⟨rfl, rfl⟩

set_option maxHeartbeats 4000000 in
theorem parseBool_none (s : ByteArray) (w : World) (h1 : s.toList ∉ yesWords) (h2 : s.toList ∉ noWords) :
    Calls Tryz.prog 80 #[.string s] w fun e w' => (∃ b : Nat, e = .returned (.tuple #[.bool false, .iface 138 (.pointer (some ⟨b, 0, none⟩))])) ∧ Below w.heap.size w w' := by
  simp only [yesWords, noWords, List.mem_cons, List.not_mem_nil, or_false, not_or] at h1 h2
  obtain ⟨a1, a2, a3, a4, a5, a6, a7, a8, a9, a10, a11, a12, a13⟩ := h1
  obtain ⟨b1, b2, b3, b4, b5, b6, b7, b8, b9, b10, b11, b12, b13⟩ := h2
  replace a1 : (s.toList == [49]) = false := beq_eq_false_iff_ne.2 a1
  replace a2 : (s.toList == [116]) = false := beq_eq_false_iff_ne.2 a2
  replace a3 : (s.toList == [84]) = false := beq_eq_false_iff_ne.2 a3
  replace a4 : (s.toList == [116, 114, 117, 101]) = false := beq_eq_false_iff_ne.2 a4
  replace a5 : (s.toList == [84, 82, 85, 69]) = false := beq_eq_false_iff_ne.2 a5
  replace a6 : (s.toList == [84, 114, 117, 101]) = false := beq_eq_false_iff_ne.2 a6
  replace a7 : (s.toList == [89, 69, 83]) = false := beq_eq_false_iff_ne.2 a7
  replace a8 : (s.toList == [121, 101, 115]) = false := beq_eq_false_iff_ne.2 a8
  replace a9 : (s.toList == [89, 101, 115]) = false := beq_eq_false_iff_ne.2 a9
  replace a10 : (s.toList == [121]) = false := beq_eq_false_iff_ne.2 a10
  replace a11 : (s.toList == [79, 78]) = false := beq_eq_false_iff_ne.2 a11
  replace a12 : (s.toList == [111, 110]) = false := beq_eq_false_iff_ne.2 a12
  replace a13 : (s.toList == [79, 110]) = false := beq_eq_false_iff_ne.2 a13
  replace b1 : (s.toList == [48]) = false := beq_eq_false_iff_ne.2 b1
  replace b2 : (s.toList == [102]) = false := beq_eq_false_iff_ne.2 b2
  replace b3 : (s.toList == [70]) = false := beq_eq_false_iff_ne.2 b3
  replace b4 : (s.toList == [102, 97, 108, 115, 101]) = false := beq_eq_false_iff_ne.2 b4
  replace b5 : (s.toList == [70, 65, 76, 83, 69]) = false := beq_eq_false_iff_ne.2 b5
  replace b6 : (s.toList == [70, 97, 108, 115, 101]) = false := beq_eq_false_iff_ne.2 b6
  replace b7 : (s.toList == [78, 79]) = false := beq_eq_false_iff_ne.2 b7
  replace b8 : (s.toList == [110, 111]) = false := beq_eq_false_iff_ne.2 b8
  replace b9 : (s.toList == [78, 111]) = false := beq_eq_false_iff_ne.2 b9
  replace b10 : (s.toList == [110]) = false := beq_eq_false_iff_ne.2 b10
  replace b11 : (s.toList == [79, 70, 70]) = false := beq_eq_false_iff_ne.2 b11
  replace b12 : (s.toList == [111, 102, 102]) = false := beq_eq_false_iff_ne.2 b12
  replace b13 : (s.toList == [79, 102, 102]) = false := beq_eq_false_iff_ne.2 b13
  go_enter Tryz.func80, Tryz.ntmps80
  go_wp2_with (go_at_call 67; refine (errorsNew_any _ _).mono ?_; rintro e w' ⟨rfl, rfl⟩)
  go_ret2
  exact ⟨⟨_, rfl⟩, (Below.refl _ _).alloc (Nat.le_refl _) _⟩
end Go.Proofs.YtfnncdngfggcjaaGreatDoor
