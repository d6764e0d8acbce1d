/- The walk of laws.FnTruth. -/
import Derived.Test.YtfnncdngfggcjaaGreatDoorTru
namespace Go.Proofs.YtfnncdngfggcjaaGreatDoor
open Go.RowKit

theorem plain_size {s : ByteArray} (h : isPlain s = true) : s.size ≤ 60 := by
  unfold isPlain at h; simp at h; exact h.2
theorem plain_pct {s : ByteArray} (h : isPlain s = true) : NoPct s := fun i hi e => by
  unfold isPlain at h
  simp only [Bool.and_eq_true, List.all_eq_true, List.mem_range] at h
  have := h.1.1 i hi
  unfold okAt isLetter at this
  rw [e] at this
  simp at this

theorem truthVal_form (l : List UInt8) : ∃ b i, truthVal l = .tuple #[.bool b, .bool i] := by
  unfold truthVal
  split
  · exact ⟨_, _, rfl⟩
  · split
    · exact ⟨_, _, rfl⟩
    · exact ⟨_, _, rfl⟩
theorem truthVal_true : truthVal (⟨#[116, 114, 117, 101]⟩ : ByteArray).toList = .tuple #[.bool true, .bool true] := truth_at_yes (by
  have : (⟨#[116, 114, 117, 101]⟩ : ByteArray).toList = [116, 114, 117, 101] := by rw [ByteArray.toList_eq]
  rw [this]; decide)

/-- Turned, of what was there, nothing below B. -/
def Kept (B : Nat) (w w' : World) : Prop := ∃ S, Ch S w w' ∧ ∀ b, b ∈ S → B ≤ b
theorem Kept.refl (B : Nat) (w : World) : Kept B w w := ⟨[], Ch.refl _ _, by simp⟩
theorem Kept.trans {B : Nat} {a b c : World} (h : Kept B a b) (k : Kept B b c) : Kept B a c := by
  obtain ⟨S, h1, h2⟩ := h
  obtain ⟨T, k1, k2⟩ := k
  exact ⟨S ++ T, (h1.mono (fun x hx => .inl (List.mem_append_left _ hx))).trans k1 (fun x hx => .inl (List.mem_append_right _ hx)), fun b hb => (List.mem_append.1 hb).elim (h2 b) (k2 b)⟩
theorem Kept.below {B : Nat} {a b : World} (h : Kept B a b) (hB : B ≤ a.heap.size) : Below B a b := by
  obtain ⟨S, h1, h2⟩ := h
  exact h1.below hB h2
theorem Kept.ofBelow {B : Nat} {a b : World} (h : Below a.heap.size a b) : Kept B a b := ⟨[], Ch.ofBelow h, by simp⟩
theorem Glob.kept {w w' : World} {B : Nat} {ea fa : Addr} (g : Glob w B ea fa) (h : Kept B w w') : Glob w' B ea fa := by
  obtain ⟨S, h1, h2⟩ := h
  exact g.ch h1 h2

set_option maxRecDepth 100000 in
set_option maxHeartbeats 2000000 in
theorem fnTruth_walk (B : Nat) (ea fa : Addr) (s : ByteArray) (w : World) (g : Glob w B ea fa) :
    Calls Tryz.prog 12 #[.string s] w fun e w' => e = .returned (.bool true) ∧ Hid (Kept B w w') := by
  by_cases h1 : (2147483647 : Int) < (s.size : Int)
  · go_enter Tryz.func12, Tryz.ntmps12
    go_wp2
    go_ret
    exact ⟨rfl, Kept.refl B w⟩
  have hI := Lib.hid (isPlain_any s w (by omega))
  cases hp : isPlain s with
  | false =>
    rw [hp] at hI
    clear g
    go_enter Tryz.func12, Tryz.ntmps12
    go_wp2_with (go_at_call 21; refine hI.out.mono ?_; rintro e w' ⟨rfl, rfl⟩)
    go_ret
    exact ⟨rfl, Kept.refl B w⟩
  | true =>
    rw [hp] at hI
    have HP := Lib.hid (plain_pct hp)
    have h60 := plain_size hp
    obtain ⟨b, i, hbi⟩ := truthVal_form s.toList
    have H30 := Lib.hid (truth30_of B ea fa s w g (by omega) HP)
    rw [hbi] at H30
    have HT : Hid (NoPct ⟨#[116, 114, 117, 101]⟩) := fun i hi => by
      have : i < 4 := hi
      match i, this with
      | 0, _ => decide
      | 1, _ => decide
      | 2, _ => decide
      | 3, _ => decide
    have H31 : Hid (∀ W, Calls Tryz.prog 31 #[.string s] W fun e w' => e = .returned (.tuple #[.bool b, .bool i]) ∧ Below W.heap.size W w') := fun W => by
      rw [← hbi]; exact truth_any s W
    have HG := Lib.hid g
    clear g hbi hp
    cases b <;> cases i
    all_goals
      go_enter Tryz.func12, Tryz.ntmps12
      go_wp2_with (first
        | (go_at_call 30; refine (truth30_of B ea fa ⟨#[116, 114, 117, 101]⟩ _ (HG.out.kept HK2.out) (by decide) HT).mono ?_; rw [truthVal_true]; rintro e w3 ⟨rfl, hk3⟩)
        | (go_at_call 21; refine hI.out.mono ?_; rintro e w' ⟨rfl, rfl⟩)
        | (go_at_call 30; refine H30.out.mono ?_; rintro e w1 ⟨rfl, hk1⟩)
        | (go_at_call 31; refine (H31.out _).mono ?_; rintro e w2 ⟨rfl, hb2⟩; have HK2 : Hid (Kept B w w2) := Kept.trans hk1.out (Kept.ofBelow hb2); clear hb2))
      go_ret
      exact ⟨rfl, Kept.trans HK2.out hk3.out⟩
end Go.Proofs.YtfnncdngfggcjaaGreatDoor
