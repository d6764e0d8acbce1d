/- FnParent's text, what it makes of a file, and what GetKey tells of it. -/
import Derived.Test.YtfnncdngfggcjaaGreatDoorPt1
import Derived.Test.YtfnncdngfggcjaaGreatDoorNm2
namespace Go.Proofs.YtfnncdngfggcjaaGreatDoor
open Go.RowKit

theorem textOf_length (l : Ln) (r : List Ln) : (textOf (l :: r)).length = l.body.length + 1 + (textOf r).length := by
  show (l.body ++ 10 :: textOf r).length = _
  rw [List.length_append, List.length_cons]; omega
theorem TextOK.of {sh t : Bool} {lines : List Ln} {txt : ByteArray} (h : txt.data.toList = textOf lines) (hh : ∃ b0 b1 tl, textOf lines = b0 :: b1 :: tl ∧ b0.toNat < 128) (hs : (textOf lines).length ≤ 4096) (hok : okRun sh t ⟨[(dflt, [])], 0, 1⟩ lines) : TextOK sh t lines txt :=
  ⟨h, hh, by rw [← toList_length, h]; exact hs, hok⟩
theorem head_sec (n : ByteArray) (r : List Ln) (hn : 0 < n.size) : ∃ b0 b1 tl, textOf (.sec n :: r) = b0 :: b1 :: tl ∧ b0.toNat < 128 := by
  have : ∃ c tl, n.data.toList = c :: tl := by
    cases h : n.data.toList with
    | nil => have := toList_length n; rw [h] at this; simp at this; omega
    | cons c tl => exact ⟨c, tl, rfl⟩
  obtain ⟨c, tl, h⟩ := this
  refine ⟨91, c, tl ++ [93] ++ 10 :: textOf r, ?_, by decide⟩
  show (91 :: (n.data.toList ++ [93])) ++ 10 :: textOf r = _
  rw [h]; simp

variable {a b c name value : ByteArray}

/-- The law's premises. -/
structure ParIn (a b c name value : ByteArray) : Prop where
  ha : isNameB a = true
  hb : isNameB b = true
  hc : isNameB c = true
  hn : isNameB name = true
  hv : isPlain value = true

def parLines (a b c name value : ByteArray) : Nat → List Ln
  | 0 => [.sec a, .key name value, .sec (dot a b), .sec (dot (dot a b) c)]
  | 1 => [.sec a, .sec (dot a b), .key name value, .sec (dot (dot a b) c)]
  | _ => [.sec a, .sec (dot a b), .sec (dot (dot a b) c), .key name value]
def parFin (a b c name value : ByteArray) (d : Nat) : List SV :=
  [(dflt, []), (a, if d = 0 then [(name, value, [])] else []), (dot a b, if d = 1 then [(name, value, [])] else []), (dot (dot a b) c, if d = 2 then [(name, value, [])] else [])]

theorem ParIn.names (h : ParIn a b c name value) : a ≠ dflt ∧ dot a b ≠ dflt ∧ dot (dot a b) c ≠ dflt ∧ dot a b ≠ a ∧ dot (dot a b) c ≠ a ∧ dot (dot a b) c ≠ dot a b := by
  refine ⟨nameB_ne_dflt h.ha, dot_not_dflt _ _, dot_not_dflt _ _, fun e => ?_, fun e => ?_, fun e => ?_⟩
  · have := congrArg ByteArray.size e; rw [dot_size] at this; omega
  · have := congrArg ByteArray.size e; rw [dot_size, dot_size] at this; omega
  · have := congrArg ByteArray.size e; rw [dot_size (dot a b)] at this; omega
theorem ParIn.sizes (h : ParIn a b c name value) : NameB a ∧ NameB (dot a b) ∧ NameB (dot (dot a b) c) := by
  have h1 := nameB_size h.ha
  have h2 := nameB_size h.hb
  have h3 := nameB_size h.hc
  have n1 := dot_name (nameB_of h.ha) (nameB_of h.hb) (by omega)
  exact ⟨nameB_of h.ha, n1, dot_name n1 (nameB_of h.hc) (by rw [dot_size]; omega)⟩
theorem okKey_nil {sh : Bool} {n v : ByteArray} : okKey sh [] n v := ⟨by simp, .inl (by simp)⟩

theorem par_run (h : ParIn a b c name value) (d : Nat) (hd : d ≤ 2) :
    okRun false true ⟨[(dflt, [])], 0, 1⟩ (parLines a b c name value d) ∧ (runP false ⟨[(dflt, [])], 0, 1⟩ (parLines a b c name value d)).v = parFin a b c name value d := by
  obtain ⟨x1, x2, x3, x4, x5, x6⟩ := h.names
  obtain ⟨y1, y2, y3⟩ := h.sizes
  have hn := nameB_of h.hn
  have hv := valB_of h.hv
  have hk := keyOf_name h.hn 1
  have hnd := nameB_ne_dash h.hn
  have s1 : stepP false ⟨[(dflt, [])], 0, 1⟩ (.sec a) = ⟨[(dflt, []), (a, [])], 1, 1⟩ := step_sec_new (by simpa using x1)
  rcases (show d = 0 ∨ d = 1 ∨ d = 2 by omega) with rfl | rfl | rfl
  · have s2 : stepP false ⟨[(dflt, []), (a, [])], 1, 1⟩ (.key name value) = ⟨[(dflt, []), (a, [(name, value, [])])], 1, 1⟩ := step_key_new (l := [(dflt, [])]) (ks := []) hk hnd (by simp)
    have s3 : stepP false ⟨[(dflt, []), (a, [(name, value, [])])], 1, 1⟩ (.sec (dot a b)) = ⟨[(dflt, []), (a, [(name, value, [])]), (dot a b, [])], 2, 1⟩ := step_sec_new (by simp [x2, x4])
    have s4 : stepP false ⟨[(dflt, []), (a, [(name, value, [])]), (dot a b, [])], 2, 1⟩ (.sec (dot (dot a b) c)) = ⟨[(dflt, []), (a, [(name, value, [])]), (dot a b, []), (dot (dot a b) c, [])], 3, 1⟩ := step_sec_new (by simp [x3, x5, x6])
    simp only [parLines, okRun, runP, s1, s2, s3, s4, okStep, and_true]
    exact ⟨⟨⟨y1, by simp⟩, ⟨trivial, hn, hv, by omega, _, rfl, okKey_nil⟩, ⟨y2, by simp⟩, ⟨y3, by simp⟩⟩, by simp [parFin]⟩
  · have s2 : stepP false ⟨[(dflt, []), (a, [])], 1, 1⟩ (.sec (dot a b)) = ⟨[(dflt, []), (a, []), (dot a b, [])], 2, 1⟩ := step_sec_new (by simp [x2, x4])
    have s3 : stepP false ⟨[(dflt, []), (a, []), (dot a b, [])], 2, 1⟩ (.key name value) = ⟨[(dflt, []), (a, []), (dot a b, [(name, value, [])])], 2, 1⟩ := step_key_new (l := [(dflt, []), (a, [])]) (ks := []) hk hnd (by simp)
    have s4 : stepP false ⟨[(dflt, []), (a, []), (dot a b, [(name, value, [])])], 2, 1⟩ (.sec (dot (dot a b) c)) = ⟨[(dflt, []), (a, []), (dot a b, [(name, value, [])]), (dot (dot a b) c, [])], 3, 1⟩ := step_sec_new (by simp [x3, x5, x6])
    simp only [parLines, okRun, runP, s1, s2, s3, s4, okStep, and_true]
    exact ⟨⟨⟨y1, by simp⟩, ⟨y2, by simp⟩, ⟨trivial, hn, hv, by omega, _, rfl, okKey_nil⟩, ⟨y3, by simp⟩⟩, by simp [parFin]⟩
  · have s2 : stepP false ⟨[(dflt, []), (a, [])], 1, 1⟩ (.sec (dot a b)) = ⟨[(dflt, []), (a, []), (dot a b, [])], 2, 1⟩ := step_sec_new (by simp [x2, x4])
    have s3 : stepP false ⟨[(dflt, []), (a, []), (dot a b, [])], 2, 1⟩ (.sec (dot (dot a b) c)) = ⟨[(dflt, []), (a, []), (dot a b, []), (dot (dot a b) c, [])], 3, 1⟩ := step_sec_new (by simp [x3, x5, x6])
    have s4 : stepP false ⟨[(dflt, []), (a, []), (dot a b, []), (dot (dot a b) c, [])], 3, 1⟩ (.key name value) = ⟨[(dflt, []), (a, []), (dot a b, []), (dot (dot a b) c, [(name, value, [])])], 3, 1⟩ := step_key_new (l := [(dflt, []), (a, []), (dot a b, [])]) (ks := []) hk hnd (by simp)
    simp only [parLines, okRun, runP, s1, s2, s3, s4, okStep, and_true]
    exact ⟨⟨⟨y1, by simp⟩, ⟨y2, by simp⟩, ⟨y3, by simp⟩, ⟨trivial, hn, hv, by omega, _, rfl, okKey_nil⟩⟩, by simp [parFin]⟩

theorem par_length (h : ParIn a b c name value) (d : Nat) : (textOf (parLines a b c name value d)).length ≤ 4096 := by
  have h1 := nameB_size h.ha
  have h2 := nameB_size h.hb
  have h3 := nameB_size h.hc
  have h4 := nameB_size h.hn
  have h5 := plain_size h.hv
  have h0 : (textOf []).length = 0 := rfl
  unfold parLines
  split <;> simp only [textOf_length, sec_length, key_length, dot_size, h0] <;> omega

theorem par_head (h : ParIn a b c name value) (d : Nat) : ∃ b0 b1 tl, textOf (parLines a b c name value d) = b0 :: b1 :: tl ∧ b0.toNat < 128 := by
  unfold parLines
  split <;> exact head_sec _ _ (nameB_size h.ha).1

theorem nodot {x : ByteArray} (h : isNameB x = true) : ∀ j, j < x.size → bt x j ≠ 46 := fun _j hj => (nameB_ch h hj).2

theorem par_tells (h : ParIn a b c name value) (d : Nat) (hd : d ≤ 2) (B' : Nat) (w0 : World) (fb : Nat) (w' : World) (hL : LoadedR B' false (runP false ⟨[(dflt, [])], 0, 1⟩ (parLines a b c name value d)).v w0 fb w') : Tells fb (dot (dot a b) c) name value w' := by
  obtain ⟨own, σ, dsv, slv, siv, mb, hF, hv, _⟩ := hL
  rw [(par_run h d hd).2] at hv
  obtain ⟨s1, hi1, hn1, hk1⟩ := view_sec hv (i := 1) rfl
  obtain ⟨s2, hi2, hn2, hk2⟩ := view_sec hv (i := 2) rfl
  obtain ⟨s3, hi3, hn3, hk3⟩ := view_sec hv (i := 3) rfl
  obtain ⟨y1, y2, y3⟩ := h.sizes
  have hG : Calls Tryz.prog 41 #[ptr fb, .string (dot (dot a b) c)] w' fun e w'' => e = .returned (.tuple #[ptr s3.sb, .nilIface]) ∧ w' = w'' := by
    rw [← hn3]; exact getSection_found w' hF hi3 (by rw [hn3]; exact y3.pos)
  have cellOf : ∀ {i : Nat} {s : SecA} {k : KeyA} {j : Nat}, σ[i]? = some s → s.keys[j]? = some k → k.val = value → w'.cell? ⟨k.kb, 3, none⟩ = some (.string value) := fun {i s k _j} hi hj hval => by
    rw [← hval]
    exact ((hF.secs i s hi).keys k (List.mem_of_getElem? hj)).key.cells 3
  have up3 : ∀ kb, name ∉ s3.keys.map (·.name) → (Calls Tryz.prog 46 #[ptr s2.sb, .string name] w' fun e w'' => e = .returned (.tuple #[ptr kb, .nilIface]) ∧ w' = w'') → Calls Tryz.prog 46 #[ptr s3.sb, .string name] w' fun e w'' => e = .returned (.tuple #[ptr kb, .nilIface]) ∧ w' = w'' := fun kb hno hrec => by
    have hs3 := y3.max
    refine getKey_up w' name (dot a b).size 2 s2 kb hF hi3 hno (by rw [hn3]; omega) (by rw [hn3, dot_size (dot a b)]; omega) (by rw [hn3]; exact dot_at _ _) (fun j h1 h2 => by rw [hn3] at h2 ⊢; exact dot_last (nodot h.hc) j h1 h2) hi2 (by rw [hn3, hn2]; exact dot_pre _ _) (by rw [hn2]; exact y2.pos) hrec
  have up2 : ∀ kb, name ∉ s2.keys.map (·.name) → (Calls Tryz.prog 46 #[ptr s1.sb, .string name] w' fun e w'' => e = .returned (.tuple #[ptr kb, .nilIface]) ∧ w' = w'') → Calls Tryz.prog 46 #[ptr s2.sb, .string name] w' fun e w'' => e = .returned (.tuple #[ptr kb, .nilIface]) ∧ w' = w'' := fun kb hno hrec => by
    have hs2 := y2.max
    refine getKey_up w' name a.size 1 s1 kb hF hi2 hno (by rw [hn2]; omega) (by rw [hn2, dot_size]; omega) (by rw [hn2]; exact dot_at _ _) (fun j h1 h2 => by rw [hn2] at h2 ⊢; exact dot_last (nodot h.hb) j h1 h2) hi1 (by rw [hn2, hn1]; exact dot_pre _ _) (by rw [hn1]; exact y1.pos) hrec
  have e1 := keys_names hk1
  have e2 := keys_names hk2
  have e3 := keys_names hk3
  rcases (show d = 0 ∨ d = 1 ∨ d = 2 by omega) with rfl | rfl | rfl
  · have hk1' := hk1
    rw [if_pos rfl] at hk1'
    simp at e2 e3
    obtain ⟨k, hj, hkn, hkv, _⟩ := view_key (s := s1) (ks := [(name, value, [])]) hk1' (j := 0) rfl
    refine ⟨s3.sb, k.kb, hG, up3 _ (by rw [e3]; simp) (up2 _ (by rw [e2]; simp) ?_), cellOf hi1 hj hkv⟩
    have := getKey_here w' hF hi1 hj
    rw [hkn] at this; exact this
  · have hk2' := hk2
    rw [if_pos rfl] at hk2'
    simp at e3
    obtain ⟨k, hj, hkn, hkv, _⟩ := view_key (s := s2) (ks := [(name, value, [])]) hk2' (j := 0) rfl
    refine ⟨s3.sb, k.kb, hG, up3 _ (by rw [e3]; simp) ?_, cellOf hi2 hj hkv⟩
    have := getKey_here w' hF hi2 hj
    rw [hkn] at this; exact this
  · have hk3' := hk3
    rw [if_pos rfl] at hk3'
    obtain ⟨k, hj, hkn, hkv, _⟩ := view_key (s := s3) (ks := [(name, value, [])]) hk3' (j := 0) rfl
    refine ⟨s3.sb, k.kb, hG, ?_, cellOf hi3 hj hkv⟩
    have := getKey_here w' hF hi3 hj
    rw [hkn] at this; exact this
end Go.Proofs.YtfnncdngfggcjaaGreatDoor
