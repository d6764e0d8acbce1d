/- What IsName and IsPlain give: names and values that the parser takes; a name behind a point. -/
import Derived.Test.YtfnncdngfggcjaaGreatDoorNm1
import Derived.Test.YtfnncdngfggcjaaGreatDoorPar4
namespace Go.Proofs.YtfnncdngfggcjaaGreatDoor
open Go.RowKit

theorem nameOk_of {s : ByteArray} (h : isNameB s = true) {i : Nat} (hi : i < s.size) : nameOk s i = true := by
  unfold isNameB at h
  simp only [Bool.and_eq_true, List.all_eq_true, List.mem_range] at h
  exact h.1.1.1 i hi
theorem nameB_size {s : ByteArray} (h : isNameB s = true) : 1 ≤ s.size ∧ s.size ≤ 30 := by
  unfold isNameB at h
  simp only [Bool.and_eq_true, decide_eq_true_eq] at h
  exact ⟨h.1.1.2, h.1.2⟩
theorem nameB_low {s : ByteArray} (h : isNameB s = true) : (lowB s).toList ≠ dfltLow := by
  unfold isNameB at h
  simp only [Bool.and_eq_true] at h
  intro e
  rw [e] at h
  simp at h
theorem nameB_ch {s : ByteArray} (h : isNameB s = true) {i : Nat} (hi : i < s.size) : nameCh (bt s i) = true ∧ bt s i ≠ 46 := by
  have h1 := nameOk_of h hi
  unfold nameOk at h1
  unfold nameCh
  unfold isLetter at h1 ⊢
  simp at h1 ⊢
  omega
theorem nameB_first {s : ByteArray} (h : isNameB s = true) : isLetter (bt s 0) = true := by
  have h1 := nameOk_of h (i := 0) (by have := nameB_size h; omega)
  unfold nameOk at h1
  simpa using h1
theorem nameB_of {s : ByteArray} (h : isNameB s = true) : NameB s :=
  ⟨(nameB_size h).1, by have := (nameB_size h).2; omega, fun i hi => (nameB_ch h hi).1⟩
theorem nameB_ne_dflt {s : ByteArray} (h : isNameB s = true) : s ≠ dflt := fun e => nameB_low h (by rw [e, ByteArray.toList_eq]; decide)
theorem nameB_ne_dash {s : ByteArray} (h : isNameB s = true) : s ≠ dash := fun e => by
  have := nameB_first h
  rw [e] at this
  revert this
  decide
theorem keyOf_name {s : ByteArray} (h : isNameB s = true) (n : Nat) : keyOf n s = s := if_neg (nameB_ne_dash h)

theorem okAt_of {s : ByteArray} (h : isPlain s = true) {i : Nat} (hi : i < s.size) : okAt s i = true := by
  unfold isPlain at h
  simp only [Bool.and_eq_true, List.all_eq_true, List.mem_range] at h
  exact h.1.1 i hi
theorem plain_pos {s : ByteArray} (h : isPlain s = true) : 1 ≤ s.size := by
  unfold isPlain at h; simp at h; exact h.1.2
theorem valB_of {s : ByteArray} (h : isPlain s = true) : ValB s := by
  have h1 := plain_pos h
  have h2 := plain_size h
  refine ⟨h1, by omega, fun i hi => ?_, ?_, ?_⟩
  · have h3 := okAt_of h hi
    unfold okAt at h3
    unfold vch
    unfold isLetter at h3 ⊢
    simp at h3 ⊢
    omega
  · have h3 := okAt_of h (i := 0) h1
    intro e
    unfold okAt isLetter at h3
    rw [e] at h3
    simp at h3
  · have h3 := okAt_of h (i := s.size - 1) (by omega)
    intro e
    unfold okAt isLetter at h3
    rw [e] at h3
    simp at h3
    omega

/-! ### x.c -/
def dot (x c : ByteArray) : ByteArray := x ++ ⟨#[46]⟩ ++ c
theorem app_list (x y : ByteArray) : (x ++ y).data.toList = x.data.toList ++ y.data.toList := by rw [ByteArray.data_append, Array.toList_append]
theorem dot_list (x c : ByteArray) : (dot x c).data.toList = x.data.toList ++ 46 :: c.data.toList := by
  unfold dot; rw [app_list, app_list]; simp
theorem dot_size (x c : ByteArray) : (dot x c).size = x.size + 1 + c.size := by
  rw [← toList_length, dot_list, List.length_append, List.length_cons, toList_length, toList_length]; omega
theorem dot_lt (x c : ByteArray) {i : Nat} (h : i < x.size) : bt (dot x c) i = bt x i := by
  unfold bt
  rw [dot_list, List.getD_eq_getElem?_getD, List.getD_eq_getElem?_getD, List.getElem?_append_left (by rw [toList_length]; exact h)]
theorem dot_at (x c : ByteArray) : bt (dot x c) x.size = 46 := by
  unfold bt
  rw [dot_list, List.getD_eq_getElem?_getD, List.getElem?_append_right (by rw [toList_length]; exact Nat.le_refl _), toList_length, Nat.sub_self]
  rfl
theorem dot_gt (x c : ByteArray) (j : Nat) : bt (dot x c) (x.size + 1 + j) = bt c j := by
  unfold bt
  rw [dot_list, List.getD_eq_getElem?_getD, List.getD_eq_getElem?_getD, List.getElem?_append_right (by rw [toList_length]; omega), toList_length, show x.size + 1 + j - x.size = j + 1 by omega]
  rfl
theorem dot_pre (x c : ByteArray) : (dot x c).extract 0 x.size = x := by
  apply ba_ext
  rw [ByteArray.data_extract, Array.toList_extract, List.extract_eq_take_drop, dot_list, List.drop_zero, Nat.sub_zero, List.take_append_of_le_length (by rw [toList_length]; exact Nat.le_refl _), List.take_of_length_le (by rw [toList_length]; exact Nat.le_refl _)]
theorem dot_name {x c : ByteArray} (hx : NameB x) (hc : NameB c) (hs : x.size + 1 + c.size ≤ 200) : NameB (dot x c) := by
  refine ⟨by rw [dot_size]; omega, by rw [dot_size]; exact hs, fun i hi => ?_⟩
  rw [dot_size] at hi
  rcases Nat.lt_trichotomy i x.size with h | h | h
  · rw [dot_lt x c h]; exact hx.ch i h
  · subst h; rw [dot_at]; decide
  · obtain ⟨j, rfl⟩ : ∃ j, i = x.size + 1 + j := ⟨i - (x.size + 1), by omega⟩
    rw [dot_gt]; exact hc.ch j (by omega)
theorem dot_last {x c : ByteArray} (hc : ∀ j, j < c.size → bt c j ≠ 46) : ∀ j, x.size < j → j < (dot x c).size → bt (dot x c) j ≠ 46 := fun j h1 h2 => by
  rw [dot_size] at h2
  obtain ⟨k, rfl⟩ : ∃ k, j = x.size + 1 + k := ⟨j - (x.size + 1), by omega⟩
  rw [dot_gt]; exact hc k (by omega)
theorem dot_ne_dflt (x c : ByteArray) (hx : x.size < 7) : dot x c ≠ dflt := fun e => by
  have h := dot_at x c
  rw [e] at h
  revert h
  have : x.size = 0 ∨ x.size = 1 ∨ x.size = 2 ∨ x.size = 3 ∨ x.size = 4 ∨ x.size = 5 ∨ x.size = 6 := by omega
  rcases this with h | h | h | h | h | h | h <;> rw [h] <;> decide
theorem dot_not_dflt (x c : ByteArray) : dot x c ≠ dflt := fun e => by
  by_cases h : x.size < 7
  · exact dot_ne_dflt x c h e
  · have := congrArg ByteArray.size e
    rw [dot_size] at this
    have h7 : dflt.size = 7 := rfl
    omega

/-! ### Steps -/
theorem step_sec_new {sh : Bool} {p : PS} {n : ByteArray} (h : n ∉ p.v.map (·.1)) : stepP sh p (.sec n) = ⟨p.v ++ [(n, [])], p.v.length, 1⟩ := by
  show (⟨(secV p.v n).1, (secV p.v n).2, 1⟩ : PS) = _
  rw [secV_new h]
theorem modify_last {α : Type} (l : List α) (x : α) (f : α → α) : (l ++ [x]).modify l.length f = l ++ [f x] := by
  induction l with
  | nil => rfl
  | cons a l ih => simp [ih]
theorem step_key_new {sh : Bool} {l : List SV} {n : ByteArray} {ks : List KV} {cnt : Nat} {k x : ByteArray} (hd : keyOf cnt k = k) (hk : k ≠ dash) (h : k ∉ ks.map (·.1)) :
    stepP sh ⟨l ++ [(n, ks)], l.length, cnt⟩ (.key k x) = ⟨l ++ [(n, ks ++ [(k, x, [])])], l.length, cnt⟩ := by
  show (⟨putV sh (l ++ [(n, ks)]) l.length (keyOf cnt k) x, l.length, if k = dash then cnt + 1 else cnt⟩ : PS) = _
  rw [hd, if_neg hk]
  unfold putV
  congr 1
  rw [modify_last, putK_new h]
/-- A section of a file, by the file's view. -/
theorem view_sec {σ : List SecA} {v : List SV} (h : viewOf σ = v) {i : Nat} {n : ByteArray} {ks : List KV} (hi : v[i]? = some (n, ks)) : ∃ s, σ[i]? = some s ∧ s.name = n ∧ s.keys.map KeyA.view = ks := by
  rw [← h] at hi
  unfold viewOf at hi
  rw [List.getElem?_map] at hi
  cases hs : σ[i]? with
  | none => rw [hs] at hi; cases hi
  | some s =>
    rw [hs] at hi
    have : s.view = (n, ks) := Option.some.inj hi
    exact ⟨s, rfl, congrArg (·.1) this, congrArg (·.2) this⟩
theorem keys_names {s : SecA} {ks : List KV} (h : s.keys.map KeyA.view = ks) : s.keys.map (·.name) = ks.map (·.1) := by
  rw [← h, List.map_map]; rfl
theorem view_key {s : SecA} {ks : List KV} (h : s.keys.map KeyA.view = ks) {j : Nat} {x : KV} (hj : ks[j]? = some x) : ∃ k, s.keys[j]? = some k ∧ k.name = x.1 ∧ k.val = x.2.1 ∧ k.shs.map (·.2) = x.2.2 := by
  rw [← h, List.getElem?_map] at hj
  cases hs : s.keys[j]? with
  | none => rw [hs] at hj; cases hj
  | some k =>
    rw [hs] at hj
    have : k.view = x := Option.some.inj hj
    subst this
    exact ⟨k, rfl, rfl, rfl, rfl⟩
end Go.Proofs.YtfnncdngfggcjaaGreatDoor
